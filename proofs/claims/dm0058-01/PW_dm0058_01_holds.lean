import PyProof.Rows.All
import Wide.All
import OpenK.AllK
import Wide.FinOn
import PySem.Challenge.RW_dm0058_01
set_option Elab.async false
set_option linter.all false
set_option genSizeOf false set_option genInjectivity false set_option compiler.extract_closed false
namespace Mine
theorem aa{T0:Sort _}{c0 c1:T0→Prop}{p:Prop}(h:∃ x0,c0 x0∧c1 x0)(k:∀ x0,c0 x0→c1 x0→p):p:=let⟨x0,h0,h1⟩:=h;k x0 h0 h1
theorem ad{T0:Sort _}{T1:Sort _}{c0 c1 c2:T0→T1→Prop}{p:Prop}(h:∃ x0 x1,c0 x0 x1∧c1 x0 x1∧c2 x0 x1)(k:∀ x0 x1,c0 x0 x1→c1 x0 x1→c2 x0 x1→p):p:=let⟨x0,x1,h0,h1,h2⟩:=h;k x0 x1 h0 h1 h2
theorem ae{T0:Sort _}{c0 c1 c2:T0→Prop}{p:Prop}(h:∃ x0,c0 x0∧c1 x0∧c2 x0)(k:∀ x0,c0 x0→c1 x0→c2 x0→p):p:=let⟨x0,h0,h1,h2⟩:=h;k x0 h0 h1 h2
theorem ak{c0 c1 c2 c3:Prop}{p:Prop}(h:c0∧c1∧c2∧c3)(k:c0→c1→c2→c3→p):p:=let⟨h0,h1,h2,h3⟩:=h;k h0 h1 h2 h3
theorem am{T0:Sort _}{T1:Sort _}{c0 c1:T0→T1→Prop}{p:Prop}(h:∃ x0 x1,c0 x0 x1∧c1 x0 x1)(k:∀ x0 x1,c0 x0 x1→c1 x0 x1→p):p:=let⟨x0,x1,h0,h1⟩:=h;k x0 x1 h0 h1
theorem ap{T0:Sort _}{c0 c1 c2 c3:T0→Prop}{p:Prop}(h:∃ x0,c0 x0∧c1 x0∧c2 x0∧c3 x0)(k:∀ x0,c0 x0→c1 x0→c2 x0→c3 x0→p):p:=let⟨x0,h0,h1,h2,h3⟩:=h;k x0 h0 h1 h2 h3
theorem aq{T0:Sort _}{T1:Sort _}{c0 c1 c2 c3:T0→T1→Prop}{p:Prop}(h:∃ x0 x1,c0 x0 x1∧c1 x0 x1∧c2 x0 x1∧c3 x0 x1)(k:∀ x0 x1,c0 x0 x1→c1 x0 x1→c2 x0 x1→c3 x0 x1→p):p:=let⟨x0,x1,h0,h1,h2,h3⟩:=h;k x0 x1 h0 h1 h2 h3
theorem au{c0 c1 c2:Prop}{p:Prop}(h:c0∧c1∧c2)(k:c0→c1→c2→p):p:=let⟨h0,h1,h2⟩:=h;k h0 h1 h2
theorem aw{T0:Sort _}{T1:Sort _}{T2:Sort _}{c0 c1 c2 c3:T0→T1→T2→Prop}{p:Prop}(h:∃ x0 x1 x2,c0 x0 x1 x2∧c1 x0 x1 x2∧c2 x0 x1 x2∧c3 x0 x1 x2)(k:∀ x0 x1 x2,c0 x0 x1 x2→c1 x0 x1 x2→c2 x0 x1 x2→c3 x0 x1 x2→p):p:=let⟨x0,x1,x2,h0,h1,h2,h3⟩:=h;k x0 x1 x2 h0 h1 h2 h3
theorem az{c0 c1:Prop}{p:Prop}(h:c0∧c1)(k:c0→c1→p):p:=let⟨h0,h1⟩:=h;k h0 h1
theorem aC{T0:Sort _}{T1:Sort _}{T2:Sort _}{c0 c1 c2 c3 c4:T0→T1→T2→Prop}{p:Prop}(h:∃ x0 x1 x2,c0 x0 x1 x2∧c1 x0 x1 x2∧c2 x0 x1 x2∧c3 x0 x1 x2∧c4 x0 x1 x2)(k:∀ x0 x1 x2,c0 x0 x1 x2→c1 x0 x1 x2→c2 x0 x1 x2→c3 x0 x1 x2→c4 x0 x1 x2→p):p:=let⟨x0,x1,x2,h0,h1,h2,h3,h4⟩:=h;k x0 x1 x2 h0 h1 h2 h3 h4
theorem aD{c0 c1 c2 c3 c4 c5:Prop}{p:Prop}(h:c0∧c1∧c2∧c3∧c4∧c5)(k:c0→c1→c2→c3→c4→c5→p):p:=let⟨h0,h1,h2,h3,h4,h5⟩:=h;k h0 h1 h2 h3 h4 h5
theorem aE{T0:Sort _}{T1:Sort _}{c0 c1 c2 c3 c4:T0→T1→Prop}{p:Prop}(h:∃ x0 x1,c0 x0 x1∧c1 x0 x1∧c2 x0 x1∧c3 x0 x1∧c4 x0 x1)(k:∀ x0 x1,c0 x0 x1→c1 x0 x1→c2 x0 x1→c3 x0 x1→c4 x0 x1→p):p:=let⟨x0,x1,h0,h1,h2,h3,h4⟩:=h;k x0 x1 h0 h1 h2 h3 h4
theorem aH{T0:Sort _}{T1:Sort _}{T2:Sort _}{c0 c1 c2:T0→T1→T2→Prop}{p:Prop}(h:∃ x0 x1 x2,c0 x0 x1 x2∧c1 x0 x1 x2∧c2 x0 x1 x2)(k:∀ x0 x1 x2,c0 x0 x1 x2→c1 x0 x1 x2→c2 x0 x1 x2→p):p:=let⟨x0,x1,x2,h0,h1,h2⟩:=h;k x0 x1 x2 h0 h1 h2
theorem aI{T0:Sort _}{c0 c1 c2 c3 c4:T0→Prop}{p:Prop}(h:∃ x0,c0 x0∧c1 x0∧c2 x0∧c3 x0∧c4 x0)(k:∀ x0,c0 x0→c1 x0→c2 x0→c3 x0→c4 x0→p):p:=let⟨x0,h0,h1,h2,h3,h4⟩:=h;k x0 h0 h1 h2 h3 h4
theorem aK{T0:Sort _}{T1:Sort _}{T2:Sort _}{c0 c1 c2 c3 c4 c5:T0→T1→T2→Prop}{p:Prop}(h:∃ x0 x1 x2,c0 x0 x1 x2∧c1 x0 x1 x2∧c2 x0 x1 x2∧c3 x0 x1 x2∧c4 x0 x1 x2∧c5 x0 x1 x2)(k:∀ x0 x1 x2,c0 x0 x1 x2→c1 x0 x1 x2→c2 x0 x1 x2→c3 x0 x1 x2→c4 x0 x1 x2→c5 x0 x1 x2→p):p:=let⟨x0,x1,x2,h0,h1,h2,h3,h4,h5⟩:=h;k x0 x1 x2 h0 h1 h2 h3 h4 h5
theorem aM{T0:Sort _}{T1:Sort _}{T2:Sort _}{c0 c1:T0→T1→T2→Prop}{p:Prop}(h:∃ x0 x1 x2,c0 x0 x1 x2∧c1 x0 x1 x2)(k:∀ x0 x1 x2,c0 x0 x1 x2→c1 x0 x1 x2→p):p:=let⟨x0,x1,x2,h0,h1⟩:=h;k x0 x1 x2 h0 h1
theorem aN{T0:Sort _}{T1:Sort _}{c0 c1 c2 c3 c4 c5:T0→T1→Prop}{p:Prop}(h:∃ x0 x1,c0 x0 x1∧c1 x0 x1∧c2 x0 x1∧c3 x0 x1∧c4 x0 x1∧c5 x0 x1)(k:∀ x0 x1,c0 x0 x1→c1 x0 x1→c2 x0 x1→c3 x0 x1→c4 x0 x1→c5 x0 x1→p):p:=let⟨x0,x1,h0,h1,h2,h3,h4,h5⟩:=h;k x0 x1 h0 h1 h2 h3 h4 h5
theorem aO{T0:Sort _}{T1:Sort _}{T2:Sort _}{T3:Sort _}{c0 c1:T0→T1→T2→T3→Prop}{p:Prop}(h:∃ x0 x1 x2 x3,c0 x0 x1 x2 x3∧c1 x0 x1 x2 x3)(k:∀ x0 x1 x2 x3,c0 x0 x1 x2 x3→c1 x0 x1 x2 x3→p):p:=let⟨x0,x1,x2,x3,h0,h1⟩:=h;k x0 x1 x2 x3 h0 h1
theorem aP{T0:Sort _}{c0 c1 c2 c3 c4 c5:T0→Prop}{p:Prop}(h:∃ x0,c0 x0∧c1 x0∧c2 x0∧c3 x0∧c4 x0∧c5 x0)(k:∀ x0,c0 x0→c1 x0→c2 x0→c3 x0→c4 x0→c5 x0→p):p:=let⟨x0,h0,h1,h2,h3,h4,h5⟩:=h;k x0 h0 h1 h2 h3 h4 h5
theorem aQ{T0:Sort _}{T1:Sort _}{T2:Sort _}{T3:Sort _}{c0 c1 c2 c3 c4 c5:T0→T1→T2→T3→Prop}{p:Prop}(h:∃ x0 x1 x2 x3,c0 x0 x1 x2 x3∧c1 x0 x1 x2 x3∧c2 x0 x1 x2 x3∧c3 x0 x1 x2 x3∧c4 x0 x1 x2 x3∧c5 x0 x1 x2 x3)(k:∀ x0 x1 x2 x3,c0 x0 x1 x2 x3→c1 x0 x1 x2 x3→c2 x0 x1 x2 x3→c3 x0 x1 x2 x3→c4 x0 x1 x2 x3→c5 x0 x1 x2 x3→p):p:=let⟨x0,x1,x2,x3,h0,h1,h2,h3,h4,h5⟩:=h;k x0 x1 x2 x3 h0 h1 h2 h3 h4 h5
theorem aS{T0:Sort _}{T1:Sort _}{T2:Sort _}{T3:Sort _}{c0 c1 c2 c3 c4 c5 c6:T0→T1→T2→T3→Prop}{p:Prop}(h:∃ x0 x1 x2 x3,c0 x0 x1 x2 x3∧c1 x0 x1 x2 x3∧c2 x0 x1 x2 x3∧c3 x0 x1 x2 x3∧c4 x0 x1 x2 x3∧c5 x0 x1 x2 x3∧c6 x0 x1 x2 x3)(k:∀ x0 x1 x2 x3,c0 x0 x1 x2 x3→c1 x0 x1 x2 x3→c2 x0 x1 x2 x3→c3 x0 x1 x2 x3→c4 x0 x1 x2 x3→c5 x0 x1 x2 x3→c6 x0 x1 x2 x3→p):p:=let⟨x0,x1,x2,x3,h0,h1,h2,h3,h4,h5,h6⟩:=h;k x0 x1 x2 x3 h0 h1 h2 h3 h4 h5 h6
theorem aT{T0:Sort _}{T1:Sort _}{T2:Sort _}{c0:T0→T1→T2→Prop}{p:Prop}(h:∃ x0 x1 x2,c0 x0 x1 x2)(k:∀ x0 x1 x2,c0 x0 x1 x2→p):p:=let⟨x0,x1,x2,h0⟩:=h;k x0 x1 x2 h0
theorem aU{T0:Sort _}{T1:Sort _}{c0:T0→T1→Prop}{p:Prop}(h:∃ x0 x1,c0 x0 x1)(k:∀ x0 x1,c0 x0 x1→p):p:=let⟨x0,x1,h0⟩:=h;k x0 x1 h0
theorem aY{c0 c1 c2 c3 c4 c5 c6 c7 c8 c9:Prop}{p:Prop}(h:c0∧c1∧c2∧c3∧c4∧c5∧c6∧c7∧c8∧c9)(k:c0→c1→c2→c3→c4→c5→c6→c7→c8→c9→p):p:=let⟨h0,h1,h2,h3,h4,h5,h6,h7,h8,h9⟩:=h;k h0 h1 h2 h3 h4 h5 h6 h7 h8 h9
theorem aZ{c0 c1 c2 c3 c4:Prop}{p:Prop}(h:c0∧c1∧c2∧c3∧c4)(k:c0→c1→c2→c3→c4→p):p:=let⟨h0,h1,h2,h3,h4⟩:=h;k h0 h1 h2 h3 h4
theorem ba{T0:Sort _}{c0 c1 c2 c3 c4 c5 c6:T0→Prop}{p:Prop}(h:∃ x0,c0 x0∧c1 x0∧c2 x0∧c3 x0∧c4 x0∧c5 x0∧c6 x0)(k:∀ x0,c0 x0→c1 x0→c2 x0→c3 x0→c4 x0→c5 x0→c6 x0→p):p:=let⟨x0,h0,h1,h2,h3,h4,h5,h6⟩:=h;k x0 h0 h1 h2 h3 h4 h5 h6
theorem bd{T0:Sort _}{T1:Sort _}{T2:Sort _}{T3:Sort _}{c0 c1 c2 c3 c4 c5 c6 c7:T0→T1→T2→T3→Prop}{p:Prop}(h:∃ x0 x1 x2 x3,c0 x0 x1 x2 x3∧c1 x0 x1 x2 x3∧c2 x0 x1 x2 x3∧c3 x0 x1 x2 x3∧c4 x0 x1 x2 x3∧c5 x0 x1 x2 x3∧c6 x0 x1 x2 x3∧c7 x0 x1 x2 x3)(k:∀ x0 x1 x2 x3,c0 x0 x1 x2 x3→c1 x0 x1 x2 x3→c2 x0 x1 x2 x3→c3 x0 x1 x2 x3→c4 x0 x1 x2 x3→c5 x0 x1 x2 x3→c6 x0 x1 x2 x3→c7 x0 x1 x2 x3→p):p:=let⟨x0,x1,x2,x3,h0,h1,h2,h3,h4,h5,h6,h7⟩:=h;k x0 x1 x2 x3 h0 h1 h2 h3 h4 h5 h6 h7
theorem be{T0:Sort _}{T1:Sort _}{T2:Sort _}{T3:Sort _}{c0 c1 c2 c3 c4:T0→T1→T2→T3→Prop}{p:Prop}(h:∃ x0 x1 x2 x3,c0 x0 x1 x2 x3∧c1 x0 x1 x2 x3∧c2 x0 x1 x2 x3∧c3 x0 x1 x2 x3∧c4 x0 x1 x2 x3)(k:∀ x0 x1 x2 x3,c0 x0 x1 x2 x3→c1 x0 x1 x2 x3→c2 x0 x1 x2 x3→c3 x0 x1 x2 x3→c4 x0 x1 x2 x3→p):p:=let⟨x0,x1,x2,x3,h0,h1,h2,h3,h4⟩:=h;k x0 x1 x2 x3 h0 h1 h2 h3 h4
theorem hide {T:Prop} (h:∀ G:Prop,(T->G)->G):T:=h T id
/-! arithmetic,proved once -/
theorem Zb5 {n i:Nat} (h:i < n):n - (i + 1) < n - i:=Nat.sub_succ_lt_self n i h
theorem Zut {i:Int} (h : 0<=i):((i.toNat:Nat):Int)=i:=Int.toNat_of_nonneg h
theorem Zqf {i:Int}{n:Nat} (h0 : 0<=i) (h:i < n):i.toNat < n:=by omega
theorem Zko {x y:Int} (h:y < x):(x - 1 - y).toNat < (x - y).toNat:=by omega
theorem ul {a b c d:Nat} (h:a + b < c) (k:d<=b):a + d < c:=Nat.lt_of_le_of_lt (Nat.add_le_add_left k a) h
theorem ul0 {a b c:Nat} (h:a + b < c):a < c:=Nat.lt_of_le_of_lt (Nat.le_add_right a b) h
theorem Zk7 {a b c d e f g h i:Int} (x:a < d\/a=d/\(b < e\/b=e/\c < f)) (y:d < g\/d=g/\(e < h\/e=h/\f < i)):a < g\/a=g/\(b < h\/b=h/\c < i):=by
 rcases x with x | ⟨rfl,x | ⟨rfl,x⟩⟩
 .rcases y with y | ⟨rfl,y⟩
  .exact .inl (Int.lt_trans x y)
  .exact .inl x
 .rcases y with y | ⟨rfl,y | ⟨rfl,y⟩⟩
  .exact .inl y
  .exact .inr ⟨rfl,.inl (Int.lt_trans x y)⟩
  .exact .inr ⟨rfl,.inl x⟩
 .rcases y with y | ⟨rfl,y | ⟨rfl,y⟩⟩
  .exact .inl y
  .exact .inr ⟨rfl,.inl y⟩
  .exact .inr ⟨rfl,.inr ⟨rfl,Int.lt_trans x y⟩⟩
noncomputable abbrev FE:=Lean.Grind.Linarith.Expr
noncomputable abbrev FkL:=Nat->Nat->Int
noncomputable abbrev FK:=(Nat->FkL × Nat)->Nat->Option Nat
noncomputable abbrev fR {β:Type} (o : β) (v:Nat->β) (p:FE->FE->β->β->β) (m:FE->FE->β->β->β) (q:FE->β->β) (u:Nat->FE->β->β) (i:Int->FE->β->β):FE->β:=Lean.Grind.Linarith.Expr.rec (motive:=λ_=>β) o v p m q u i
noncomputable abbrev fr {α β:Type} (o : β) (u : α->β->β):List α->β:=List.rec (motive:=λ_=>β) o λx _=>u x
noncomputable abbrev fnth {α:Type} (x0 : α):List α->Nat->α:=fr (λ_=>x0) λx ih=>Nat.rec x (λj _=>ih j)
noncomputable abbrev fN (c:List Nat):FE->Nat:=fR 1 (fnth 0 c) (λ_ _ x y=>x + y) (λ_ _ _ _=>0) (λ_ _=>0) (λk _ x=>k * x) (λk _ _=>k.toNat)
noncomputable abbrev fZ (c:List Nat) (d:List Int):FE->Int:=fR 1 (fnth 0 d) (λ_ _ x y=>x + y) (λ_ _ x y=>x - y) (λt _=>(fN c t:Int)) (λk _ x=>(k:Int) * x) (λk _ _=>k)
noncomputable abbrev fl {β:Type} (K:FE->FE->β) (o : β):FE->β:=fR o (λ_=>o) (λx y _ _=>K x y) (λ_ _ _ _=>o) (λ_ _=>o) (λ_ _ _=>o) (λ_ _ _=>o)
noncomputable abbrev f3 {β:Type} (x y z : β):Nat->β:=Nat.rec x (λk _=>Nat.rec y (λ_ _=>z) k)
noncomputable abbrev fP (c:List Nat) (d:List Int):FE->Prop:=fR False (λ_=>True) (λ_ _ x y=>x->y) (λ_ _ x y=>x\/y) (λ_ x=>¬ x)
 (λk t _=>fl (λs t=>f3 (fN c s < fN c t) (fN c s<=fN c t) (fN c s=fN c t) k) True t)
 (λk t _=>fl (λs t=>f3 (fZ c d s < fZ c d t) (fZ c d s<=fZ c d t) (fZ c d s=fZ c d t) k.toNat) True t)
/-! linear forms: 0 0 the constant,1 i and 2 i the atoms -/
noncomputable def fax (k:Int) (f h:FkL):FkL:=λa j=>k * f a j + h a j
noncomputable def fdl (a i:Nat):FkL:=λb j=>cond (and (Nat.beq b a) (Nat.beq j i)) 1 0
noncomputable def fO:FkL:=λ_ _=>0
noncomputable def fD {α:Type} (g : α->Int):List α->(Nat->Int)->Int:=fr (λ_=>0) λx ih f=>f 0 * g x + ih (λj=>f (j + 1))
noncomputable def fok {α:Type} (p:Int->Bool):List α->(Nat->Int)->Bool:=fr (λ_=>true) λ_ ih f=>and (p (f 0)) (ih λj=>f (j + 1))
noncomputable def fcN:FE->FkL:=fR (fdl 0 0) (fdl 1) (λ_ _ x y=>fax 1 x y) (λ_ _ _ _=>fO) (λ_ _=>fO) (λk _ x=>fax k x fO) (λk _ _=>fax k.toNat (fdl 0 0) fO)
noncomputable def fcZ:FE->FkL:=fR (fdl 0 0) (fdl 2) (λ_ _ x y=>fax 1 x y) (λ_ _ x y=>fax (-1) y x) (λt _=>fcN t) (λk _ x=>fax k x fO) (λk _ _=>fax k (fdl 0 0) fO)
noncomputable def fW (c:List Nat) (d:List Int) (f:FkL):Int:=f 0 0 + (fD Int.ofNat c (f 1) + fD id d (f 2))
noncomputable def fadd (K:FK) (L:FkL):FK:=λA=>K λr=>(fax (((A r).2 % 16:Nat):Int) L (A r).1,(A r).2 / 16)
noncomputable def fbr (K H:FK):FK:=λA r=>(K A r).bind (H A)
noncomputable def fng (L:FkL):FkL:=fax (-1) L fO
noncomputable def fm1 (L:FkL):FkL:=fax (-1) (fdl 0 0) L
noncomputable def fat (k:Nat) (L:FkL) (s:Bool) (K:FK):FK:=cond s (f3 (fadd K (fm1 L)) (fadd K L) (fadd (fadd K (fng L)) L) k) (f3 (fadd K (fng L)) (fadd K (fm1 (fng L))) (fbr (fadd K (fm1 L)) (fadd K (fm1 (fng L)))) k)
noncomputable def fk1 (s:Bool) (K:FK):FK:=cond s K (λ_ _=>none)
noncomputable def fT:FE->Bool->FK->FK:=fR (λs K=>cond s (λ_ _=>none) K) (λ_=>fk1)
 (λ_ _ x y s K=>cond s (fbr (x false K) (y true K)) (x true (y false K)))
 (λ_ _ x y s K=>cond s (fbr (x true K) (y true K)) (x false (y false K)))
 (λ_ x s K=>x (not s) K)
 (λk t _=>fl (λs t=>fat k (fax (-1) (fcN s) (fcN t))) fk1 t)
 (λk t _=>fl (λs t=>fat k.toNat (fax (-1) (fcZ s) (fcZ t))) fk1 t)
noncomputable def fend (c:List Nat) (d:List Int):FK:=λA r=>cond (and (Int.decLt ((A r).1 0 0) 0).decide (and (fok (λk=>(Int.decLe k 0).decide) c ((A r).1 1)) (fok (λk=>(Int.decEq k 0).decide) d ((A r).1 2)))) (some (A r).2) none
theorem fac (a b c d:Int):(a + b) + (c + d)=(a + c) + (b + d):=by rw[Int.add_assoc,Int.add_left_comm b,<-Int.add_assoc]
theorem fr1 (k a b c d e f:Int):(k * a + b) + ((k * c + d) + (k * e + f))=k * (a + (c + e)) + (b + (d + f)):=by rw[Int.mul_add,Int.mul_add,fac (k * c),fac]
theorem fr2 (k a b c d e:Int):(k * a + b) * c + (k * d + e)=k * (a * c + d) + (b * c + e):=by rw[Int.add_mul,Int.mul_add,Int.mul_assoc,fac]
theorem Ztf {α:Type} (g : α->Int) (k:Int):∀ (xs:List α) f h,fD g xs (λj=>k * f j + h j)=k * fD g xs f + fD g xs h:=
 List.rec (λ_ _=>(congrArg (· + 0) (Int.mul_zero k)).symm) λx _ ih f h=>(congrArg ((k * f 0 + h 0) * g x + ·) (ih (λj=>f (j + 1)) λj=>h (j + 1))).trans (fr2 ..)
theorem fD_O {α:Type} (g : α->Int):∀ xs:List α,fD g xs (λ_=>0)=0:=List.rec rfl λ_ _ ih=>(congrArg (_ + ·) ih).trans (congrArg (· + 0) (Int.zero_mul _))
theorem Zq7 {α:Type}{g : α->Int} {x0 : α} (h:g x0=0):∀ (xs:List α) i,fD g xs (λj=>cond (Nat.beq j i) 1 0)=g (fnth x0 xs i):=
 List.rec (λ_=>h.symm) λx xs ih=>Nat.rec ((congrArg (1 * g x + ·) (fD_O g xs)).trans ((Int.add_zero _).trans (Int.one_mul _))) λi _=>(congrArg (· + _) (Int.zero_mul _)).trans ((Int.zero_add _).trans (ih i))
section
variable {c:List Nat}{d:List Int}
theorem Zef {k:Int}{f h:FkL}{x y:Int} (e:fW c d f=x) (e':fW c d h=y):fW c d (fax k f h)=k * x + y:=
 e ▸ e' ▸ (congrArg (k * f 0 0 + h 0 0 + ·) (congr (congrArg HAdd.hAdd (Ztf ..)) (Ztf ..))).trans (fr1 ..)
theorem Zdy {f h:FkL}{x y:Int} (e:fW c d f=x) (e':fW c d h=y):fW c d (fax (-1) f h)=y - x:=(Zef e e').trans ((Int.add_comm ..).trans (congrArg (y + ·) (Int.neg_one_mul x)))
theorem fW_0 {f:FkL}{x y z:Int} (e:f 0 0=x) (e1:fD Int.ofNat c (f 1)=y) (e2:fD id d (f 2)=z):fW c d f=x + (y + z):=by subst e e1 e2;rfl
theorem fW_O:fW c d fO=0:=(fW_0 (f:=fO) rfl (fD_O ..) (fD_O ..)).trans rfl
theorem fW_1:fW c d (fdl 0 0)=1:=(fW_0 (f:=fdl 0 0) rfl (fD_O ..) (fD_O ..)).trans rfl
theorem fW_k (k:Int):fW c d (fax k (fdl 0 0) fO)=k:=(Zef fW_1 fW_O).trans ((Int.add_zero _).trans (Int.mul_one _))
theorem Zda:∀ t,fW c d (fcN t)=fN c t:=Lean.Grind.Linarith.Expr.rec fW_1
 (λi=>(fW_0 (f:=fdl 1 i) rfl (Zq7 (x0:=0) rfl ..) (fD_O ..)).trans ((Int.zero_add _).trans (Int.add_zero _)))
 (λ_ _ x y=>(Zef x y).trans (congrArg (· + _) (Int.one_mul _))) (λ_ _ _ _=>fW_O) (λ_ _=>fW_O)
 (λ_ _ x=>(Zef x fW_O).trans (Int.add_zero _)) (λk _ _=>fW_k k.toNat)
theorem Zl1:∀ t,fW c d (fcZ t)=fZ c d t:=Lean.Grind.Linarith.Expr.rec fW_1
 (λi=>(fW_0 (f:=fdl 2 i) rfl (fD_O ..) (Zq7 (x0:=0) rfl ..)).trans ((Int.zero_add _).trans (Int.zero_add _)))
 (λ_ _ x y=>(Zef x y).trans (congrArg (· + _) (Int.one_mul _))) (λ_ _ x y=>Zdy y x) (λt _=>Zda t)
 (λ_ _ x=>(Zef x fW_O).trans (Int.add_zero _)) (λk _ _=>fW_k k)
noncomputable abbrev fS (c:List Nat) (d:List Int) (K:FK):Prop:=∀ A r,(∀ r,0<=fW c d (A r).1)->K A r=none
theorem Zbk {K:FK}{L:FkL} (h : 0<=fW c d L) (k:fS c d K):fS c d (fadd K L):=λ_ _ a=>k _ _ λr=>(Zef rfl rfl).symm ▸ Int.add_nonneg (Int.mul_nonneg (Int.natCast_nonneg _) h) (a r)
theorem Zou {K H:FK} (k:fS c d K):fS c d (fbr K H):=λA r a=>congrArg (Option.bind · (H A)) (k A r a)
theorem Zot {K H:FK} (k:fS c d H):fS c d (fbr K H):=λA r a=>Option.rec (motive:=λx=>x.bind (H A)=none) rfl (λr=>k A r a) (K A r)
noncomputable abbrev fB (c:List Nat) (d:List Int) (p:Prop) (T:Bool->FK->FK):Prop:=∀ K,fS c d K->(p->fS c d (T true K))/\(¬ p->fS c d (T false K))
theorem fle {L:FkL}{x y:Int} (e:fW c d L=y - x) (h:x<=y) : 0<=fW c d L:=e ▸ Int.sub_nonneg_of_le h
theorem flt {L:FkL}{x y:Int} (e:fW c d L=y - x) (h:x < y) : 0<=fW c d (fm1 L):=(Zef fW_1 e).symm ▸ (Int.add_comm (y - x) (-1) ▸ Int.le_sub_one_of_lt (Int.sub_pos_of_lt h))
theorem Zp6 {L:FkL}{x y:Int} (e:fW c d L=y - x) (n:Nat):fB c d (f3 (x < y) (x<=y) (x=y) n) (fat n L):=λK k=>by have e2:fW c d (fng L)=x - y:=(Zef e fW_O).trans ((Int.add_zero _).trans ((Int.neg_one_mul _).trans (Int.neg_sub ..)));exact n.rec ⟨λh=>Zbk (flt e h) k,λh=>Zbk (fle e2 (Int.not_lt.mp h)) k⟩ λn _=>n.rec ⟨λh=>Zbk (fle e h) k,λh=>Zbk (flt e2 (Int.not_le.mp h)) k⟩ λ_ _=>⟨λh=>Zbk (fle e (Int.le_of_eq h)) (Zbk (fle e2 (Int.le_of_eq h.symm)) k),λh=>(Int.lt_or_gt_of_ne h).elim (λh=>Zou (Zbk (flt e h) k)) λh=>Zot (Zbk (flt e2 h) k)⟩
theorem Ztc {P:FE->FE->Prop}{p:FE->FE->Bool->FK->FK} (h:∀ s t,fB c d (P s t) (p s t)):∀ t,fB c d (fl P True t) (fl p fk1 t):=
 have h0:fB c d True fk1:=λ_ k=>⟨λ_=>k,λh=>absurd trivial h⟩
 Lean.Grind.Linarith.Expr.rec h0 (λ_=>h0) (λs t _ _=>h s t) (λ_ _ _ _=>h0) (λ_ _=>h0) (λ_ _ _=>h0) (λ_ _ _=>h0)
theorem fNZ {a b:Nat} (n:Nat):f3 ((a:Int) < b) ((a:Int)<=b) ((a:Int)=b) n=f3 (a < b) (a<=b) (a=b) n:=n.rec (propext Int.ofNat_lt) λn _=>n.rec (propext Int.ofNat_le) λ_ _=>propext Int.ofNat_inj
theorem Zum:∀ t,fB c d (fP c d t) (fT t):=Lean.Grind.Linarith.Expr.rec
 (λ_ k=>⟨λh=>h.elim,λ_=>k⟩) (λ_ _ k=>⟨λ_=>k,λh=>absurd trivial h⟩)
 (λ_ _ x y K k=>⟨λh=>(Classical.em _).elim (λg=>Zot ((y K k).1 (h g))) λg=>Zou ((x K k).2 g),λh=>(x _ ((y K k).2 λg=>h λ_=>g)).1 (Classical.byContradiction λg=>h λi=>absurd i g)⟩)
 (λ_ _ x y K k=>⟨λh=>h.elim (λg=>Zou ((x K k).1 g)) λg=>Zot ((y K k).1 g),λh=>(x _ ((y K k).2 λg=>h (.inr g))).2 λg=>h (.inl g)⟩)
 (λ_ x K k=>⟨λh=>(x K k).2 h,λh=>(x K k).1 (Classical.not_not.mp h)⟩)
 (λk t _=>Ztc (λs t=>fNZ k ▸ Zp6 ((Zdy (Zda s) (Zda t))) k) t)
 (λk t _=>Ztc (λs t=>Zp6 (Zdy (Zl1 s) (Zl1 t)) k.toNat) t)
theorem fand {a b:Bool} (h:and a b=true):a=true/\b=true:=Eq.mp (Bool.and_eq_true a b) h
theorem Zp4 {α:Type}{g : α->Int}{p:Int->Bool} (h:∀ k x,p k=true->k * g x<=0):∀ (xs:List α) f,fok p xs f=true->fD g xs f<=0:=
 List.rec (λ_ _=>Int.le_refl _) λx _ ih f e=>Int.add_nonpos (h (f 0) x (fand e).1) (ih _ (fand e).2)
theorem Zul {r:Nat}:∀ b:Bool,(b=true->False)->cond b (some r) none=none:=Bool.rec (λ_=>rfl) λh=>(h rfl).elim
theorem Zq4:fS c d (fend c d):=λ_ r a=>Zul _ λe=>Int.not_le.mpr (Int.add_neg_of_neg_of_nonpos (of_decide_eq_true (fand e).1) (Int.add_nonpos
 (Zp4 (λ_ x h=>Int.mul_nonpos_of_nonpos_of_nonneg (of_decide_eq_true h) (Int.natCast_nonneg x)) c _ (fand (fand e).2).1) (Zp4 (λ_ x h=>Int.le_of_eq ((congrArg (· * x) (of_decide_eq_true h)).trans (Int.zero_mul x))) d _ (fand (fand e).2).2))) (a r)
/-! atoms that are made of others: a - b (not split: add;split: sub),(x).toNat (neg),a / k (natMul) -/
noncomputable abbrev fv (c:List Nat) (d:List Int):FE->Nat:=fR 0 (λ_=>0) (λa b _ _=>fN c a - fN c b) (λa b _ _=>fN c a - fN c b) (λa _=>(fZ c d a).toNat) (λk a _=>fN c a / k) (λ_ _ _=>0)
noncomputable def fsh (f:FkL):FkL:=λa=>cond (Nat.beq a 1) (Nat.rec 0 λj _=>f 1 j) (f a)
noncomputable def ftn (x:FkL) (K:FK):FK:=fbr (fadd (fadd K (fax (-1) (fdl 1 0) x)) (fax (-1) x (fdl 1 0))) (fadd (fadd K (fng x)) (fng (fdl 1 0)))
noncomputable def fdef:FE->FK->FK:=fR (λK=>K) (λ_ K=>K)
 (λa b _ _ K=>fadd (fadd K (fax (-1) (fdl 1 0) (fsh (fcN a)))) (fax (-1) (fsh (fax (-1) (fcN b) (fcN a))) (fdl 1 0)))
 (λa b _ _=>ftn (fsh (fax (-1) (fcN b) (fcN a)))) (λa _=>ftn (fsh (fcZ a)))
 (λk a _ K=>fadd (fadd K (fax (-1) (fax k (fdl 1 0) fO) (fsh (fcN a)))) (fax k (fax (-1) (fsh (fcN a)) (fax k (fdl 1 0) (fax (k - 1) (fdl 0 0) fO))) fO)) (λ_ _ _ K=>K)
noncomputable abbrev fE (d:List Int):List FE->List Nat->List Nat:=fr (λc=>c) λD ih c=>ih (fv c d D :: c)
noncomputable def frun (d:List Int) (F:FE):List FE->List Nat->FK:=fr (λc=>fT F false (fend c d)) λD ih c A=>fdef D (ih (fv c d D :: c)) λr=>(fsh (A r).1,(A r).2)
theorem fsh_ok {z:Nat}{f:FkL}:fW (z :: c) d (fsh f)=fW c d f:=congrArg (λx=>f 0 0 + (x + fD id d (f 2))) ((congrArg (· + _) (Int.zero_mul _)).trans (Int.zero_add _))
theorem fW_z {z:Nat}:fW (z :: c) d (fdl 1 0)=z:=(fW_0 (f:=fdl 1 0) rfl (Zq7 (x0:=0) rfl ..) (fD_O ..)).trans ((Int.zero_add _).trans (Int.add_zero _))
theorem Zp3 {L:FkL}{K:FK}{x:Int}{z:Nat} (e:fW (z :: c) d L=x) (h:x.toNat=z) (k:fS (z :: c) d K):fS (z :: c) d (ftn L K):=by subst h;have e2:fW (x.toNat :: c) d (fng L)=0 - x:=Zdy e fW_O;exact (Int.le_total 0 x).elim (λh=>Zou (Zbk (fle (Zdy e fW_z) (Int.self_le_toNat x)) (Zbk (fle (Zdy fW_z e) (Int.le_of_eq (Int.toNat_of_nonneg h))) k))) λh=>Zot (Zbk (fle (Zdy fW_z fW_O) (Int.le_of_eq (congrArg Nat.cast (Int.toNat_of_nonpos h)))) (Zbk (fle e2 h) k))
theorem fdv {L:FkL}{a n:Nat} (e:fW c d L=n * (n * (a / n:Nat) + (n - 1) - a) + 0) : 0<=fW c d L:=e ▸ by
 cases n with
 | zero=>exact Int.le_of_eq (congrArg (· + 0) (Int.zero_mul _)).symm
 | succ n=>
  have h:(a:Int) < ((n + 1:Nat):Int) * ((a / (n + 1):Nat):Int) + ((n + 1:Nat):Int):=Int.ofNat_lt.mpr (Nat.lt_mul_div_succ a n.succ_pos);refine Int.add_nonneg (Int.mul_nonneg (Int.natCast_nonneg _) (Int.sub_nonneg_of_le (Int.add_sub_assoc .. ▸ Int.le_sub_one_of_lt h))) (Int.le_refl 0)
theorem Zq5 (D:FE) (K:FK) (k:fS (fv c d D :: c) d K):fS (fv c d D :: c) d (fdef D K):=by revert k;exact Lean.Grind.Linarith.Expr.casesOn (motive:=λD=>fS (fv c d D :: c) d K->fS (fv c d D :: c) d (fdef D K)) D id (λ_=>id) (λa b k=>Zbk (fle (Zdy (fsh_ok.trans (Zdy (Zda b) (Zda a))) fW_z) (Int.toNat_sub (fN c a) (fN c b) ▸ Int.self_le_toNat _)) (Zbk (fle (Zdy fW_z (fsh_ok.trans (Zda a))) (Int.ofNat_le.mpr (Nat.sub_le ..))) k)) (λa b=>Zp3 (fsh_ok.trans (Zdy (Zda b) (Zda a))) (Int.toNat_sub ..)) (λa=>Zp3 (fsh_ok.trans (Zl1 a)) rfl) (λn a k=>Zbk (fdv (Zef (Zdy (fsh_ok.trans (Zda a)) (Zef fW_z (fW_k _))) fW_O)) (Zbk (fle (Zdy (Zef fW_z fW_O) (fsh_ok.trans (Zda a))) (Int.ofNat_le.mpr (Nat.mul_div_le ..))) k)) (λ_ _=>id)
theorem Zq2 {F:FE}:∀ (Ds:List FE) (c:List Nat),¬ fP (fE d Ds c) d F->fS c d (frun d F Ds c):=
 List.rec (λ_ g=>(Zum F _ Zq4).2 g) λD _ ih c g A r a=>Zq5 D _ (ih _ g) _ r λr=>fsh_ok.symm ▸ a r
end
noncomputable abbrev fpT {β:Type} (z : β):Nat->Nat->(FE->Nat->β)->β:=Nat.rec (λ_ _=>z) λ_ ih n k=>
 fnth (k (.var (n % 16 - 7)) (n / 16)) [ih (n / 16) λs n=>ih n λt n=>k (.add s t) n,ih (n / 16) λs n=>ih n λt n=>k (.sub s t) n,
  ih (n / 256) λt m=>k (.natMul (n / 16 % 16) t) m,ih (n / 16) λt n=>k (.neg t) n,k (.intMul (n / 16 % 16:Nat) .zero) (n / 256),k (.intMul (n / 16 % 256:Nat) .zero) (n / 4096),k .zero (n / 16)] (n % 16)
noncomputable abbrev fpF:Nat->Nat->(FE->Nat->FE)->FE:=Nat.rec (λ_ _=>.zero) λ_ ih n k=>
 have at2 (f:FE->FE):FE:=fpT .zero 64 (n / 16) λs m=>fpT .zero 64 m λt m=>k (f (.add s t)) m
 fnth (at2 (.intMul (n % 16 - 7:Nat))) [ih (n / 16) λs n=>ih n λt n=>k (.add s t) n,ih (n / 16) λs n=>ih n λt n=>k (.sub s t) n,ih (n / 16) λt n=>k (.neg t) n,k .zero (n / 16),at2 (.natMul 0),at2 (.natMul 1),at2 (.natMul 2)] (n % 16)
noncomputable abbrev fp:Nat->Nat->List FE × FE:=Nat.rec (λ_=>([],.zero)) λ_ ih n=>
 cond (Nat.beq (n % 16) 10) (fpT ([],.zero) 64 (n / 16) λD m=>(D :: (ih m).1,(ih m).2)) ([],fpF 64 n λt _=>t)
theorem fk (c:List Nat) (d:List Int) (n r:Nat) (h:(frun d (fp 64 n).2 (fp 64 n).1 c (λr=>(fO,r)) r).isSome=true):fP (fE d (fp 64 n).1 c) d (fp 64 n).2:=
 Classical.byContradiction λg=>nomatch (congrArg Option.isSome (Zq2 (fp 64 n).1 c g (λr=>(fO,r)) r λ_=>Int.le_of_eq fW_O.symm)).symm.trans h
section
variable {a b c d:Nat}{x y z u v:Int}
noncomputable abbrev F20:=fk [a,b] []
noncomputable abbrev F30:=fk [a,b,c] []
noncomputable abbrev F10:=fk [a] []
noncomputable abbrev F02:=fk [] [x,y]
noncomputable abbrev F03:=fk [] [x,y,z]
noncomputable abbrev F01:=fk [] [x]
noncomputable abbrev F11:=fk [a] [x]
noncomputable abbrev F00:=fk [] []
noncomputable abbrev F04:=fk [] [x,y,z,u]
noncomputable abbrev F40:=fk [a,b,c,d] []
noncomputable abbrev F13:=fk [a] [x,y,z]
noncomputable abbrev F05:=fk [] [x,y,z,u,v]
noncomputable abbrev F12:=fk [a] [x,y]
end
open PySem PySem.W PyProof.Rows
noncomputable abbrev wB := @wpAny_bind
noncomputable abbrev wP := @wpAny_pure
set_option maxRecDepth 100000
noncomputable def anyA {α:Type} (as:Array α) (p : α->Bool) (start:Nat:=0) (stop:Nat:=as.size):Bool:=
 @Bool.rec (λ_=>Bool) (Array.any as p start stop) (PySem.W.R.anyR as.toList p) (Nat.beq start 0 && Nat.beq stop as.size)
theorem Zrh:@Array.any.{0} = @anyA:=by
 funext α as p start stop;unfold anyA;cases h:(Nat.beq start 0 && Nat.beq stop as.size) with
 | false=>rfl
 | true=>
  have h':=Bool.and_eq_true_iff.mp h;have h1:=Nat.eq_of_beq_eq_true h'.1;have h2:=Nat.eq_of_beq_eq_true h'.2;subst h1;subst h2;show as.any p=PySem.W.R.anyR as.toList p;exact PySem.W.R.anyR_eq▸Array.any_toList▸rfl
noncomputable abbrev AnyT:={α:Type}->Array α->(α->Bool)->(start:Nat)->(stop:Nat)->Bool
inductive TEq:Builtin->Builtin->Type
 | refl (f:Builtin):TEq f f
theorem TEq.toEq {a b:Builtin} (x:TEq a b):a=b:=by cases x;rfl
noncomputable def newPk:(G:AnyT->Builtin) × TEq PySem.W.Fast.tw4202317264376624991 (G @Array.any):=⟨_,by
 delta PySem.W.Fast.tw4202317264376624991;generalize (@Array.any:AnyT)=X
 exact TEq.refl _⟩
theorem Zoa:PySem.W.Fast.tw4202317264376624991=newPk.1 @anyA:=newPk.2.toEq.trans (congrArg newPk.1 Zrh)
noncomputable def tblA (id:String):Option Builtin:=
 @Bool.rec (λ_=>Option Builtin) (PySem.W.Fast.tw14364793385576792824 id) (some (newPk.1 @anyA)) (Nat.beq (PySem.W.Fast.tw13482112738370960269 id) (PySem.W.Fast.tw13482112738370960269 "type.__new__"))
theorem Zkp:treeTable=tblA:=by
 funext id;unfold tblA;refine PySem.W.Fast.te14364793385576792824▸PySem.W.Fast.te13482112738370960269▸?_;cases h:Nat.beq (PySem.code id) (PySem.code "type.__new__") with
 | false=>rfl
 | true=>
  have h1:=PySem.code_inj _ _ (Nat.eq_of_beq_eq_true h);subst h1;show _=some (newPk.1 @anyA);refine Zoa▸PySem.W.Fast.te4202317264376624991▸?_;kernel_rfl
noncomputable def Zfp (tb:String->Option Builtin) (p:Program) (w:World) (nZ:Nat) (ann:Option Value):Nat->SharedT->Thread->Option SharedT
 | 0,_,_=>none
 | n + 1,s,t=>match through t with
  | true=>some s
  | false=>match PySem.W.Fast.tw6613529449190102663 nZ ann t with
   | false=>none
   | true=>match PySem.W.Fast.tw10156331382660048174 (PySem.W.Fast.tw11892475500146522536 tb) p w s t with
    | some (s',t')=>Zfp tb p w nZ ann n s' t'
    | none=>none
noncomputable def Ztj (P:Params):BT:=
 .node (boot_o_0 P) (.node (boot_o_1 P) (.node (boot_o_3 P) (.node (boot_o_7 P) .nil .nil) .nil) (.node (boot_o_5 P) (.node (boot_o_9 P) .nil .nil) .nil))
  (.node (boot_o_2 P) (.node (boot_o_4 P) (.node (boot_o_8 P) .nil .nil) .nil) (.node (boot_o_6 P) (.node (boot_o_10 P) .nil .nil) .nil))
theorem Zo3 (P:Params):absHeap (Ztj P) 11 (boot_heap P).life=boot_heap P:=rfl
noncomputable def S0 (w:World) (os:OsState):SharedT:=⟨Ztj w.params,11,(boot_heap w.params).life,#[],boot_drawn,boot_toks,os⟩

noncomputable def docX (c:Stmt):Str:=match c with
 | .ClassDef _ _ _ (.Expr (.Constant (.str d) _ _) _ :: _) _ _ _ _ _ _ _=>d
 | _=>default
noncomputable def Zt7 (d:Str) (c:Stmt):Stmt:=match c with
 | .ClassDef a1 a2 a3 (.Expr (.Constant (.str _) a4 a5) a6 :: r) b1 b2 b3 b4 b5 b6 b7=>.ClassDef a1 a2 a3 (.Expr (.Constant (.str d) a4 a5) a6 :: r) b1 b2 b3 b4 b5 b6 b7
 | c=>c
noncomputable def Zt6 (p:Program) (d:Str):Program:={ p with main:={ p.main with body:=p.main.body.set 5 (Zt7 d (p.main.body.getD 5 (.Pass default))) } }
noncomputable def docE:(cs:List Char) ×' (docX (PySem.Challenge.pw_dm0058_01.main.body.getD 5 (.Pass default))=PySem.Str.ofString (String.ofList cs)):=⟨_,rfl⟩
noncomputable def pT:Program:=Zt6 PySem.Challenge.pw_dm0058_01 ⟨(docE.1.map Char.toNat).toArray⟩
theorem Zn3:PySem.Challenge.pw_dm0058_01=pT:=by unfold pT;rw[<-PySem.W.Fast.ofString_ofList,<-docE.2];kernel_rfl
noncomputable def theRun (w:World) (os:OsState):Option SharedT:=Zfp tblA pT w 11 (some (.ref 6)) 2300 (S0 w os) (topStub pT)
theorem Zji {p:Program}{w:World} {nZ:Nat}{ann:Option Value}:∀ {n:Nat}{s s':SharedT}{t:Thread},Zfp tblA p w nZ ann n s t=some s'->topRun treeTable p w nZ ann n s.abs t=some s'.abs:=by
 intro r_
 induction r_ with
 | zero=>
  intro _ _ _ h;cases h
 | succ n ih=>
  intro s s' t h;dsimp only[Zfp]at h;dsimp only[topRun];cases he:through t with
  | true=>rw[he]at h;cases h;rfl
  | false=>
   rw[he]at h;replace h:=PySem.W.Fast.te6613529449190102663▸h;cases hk:stepOk nZ ann t with
   | false=>rw[hk]at h;cases h
   | true=>
    rw[hk]at h;replace h:=Zkp▸PySem.W.Fast.te11892475500146522536▸PySem.W.Fast.te10156331382660048174▸h;cases hs:stepT (denote treeTable) p w s t with
    | none=>replace h:=hs▸h;cases h
    | some r=>obtain ⟨sV,tV⟩:=r;rw[hs]at h;dsimp only;rw[stepT_spec hs];replace h:=Zkp▸h;exact ih h
noncomputable def qV:Program:=view PySem.Challenge.pw_dm0058_01 [0,2,3,4,5,7,8]
noncomputable def Zcg:List PySem.Str:=[PySem.Str.ofString "_tuplegetter",PySem.Str.ofString "Match",PySem.Str.ofString "SequenceMatcher"]


noncomputable abbrev S (x:String):PySem.Str:=PySem.Str.ofString x
noncomputable def topS (p:Program) (i:Nat):Stmt:=p.main.body.getD i (.Pass default)
noncomputable def inS (c:Stmt) (i:Nat):Stmt:=match c with
 | .ClassDef _ _ _ b _ _ _ _ _ _ _=>b.getD i (.Pass default)
 | _=>.Pass default
noncomputable def Zrb:Stmt->Arguments
 | .FunctionDef _ a _ _ _ _ _ _ _ _=>a
 | _=>default
noncomputable def Za7:Stmt->List Stmt
 | .FunctionDef _ _ b _ _ _ _ _ _ _=>b
 | .ClassDef _ _ _ b _ _ _ _ _ _ _=>b
 | _=>[]
noncomputable def Ztg:Stmt->Scope
 | .FunctionDef _ _ _ _ _ _ sc _ _ _=>sc
 | _=>default
noncomputable def Zuo:Stmt->PySem.Str
 | .FunctionDef n _ _ _ _ _ _ _ _ _=>n
 | _=>S ""
noncomputable def docS (d:Stmt):PySem.Str:=match PySem.docOf (Za7 d) with | some s=>s | none=>S ""
noncomputable def docV (t:Nat) (b:List Stmt):Value:=match PySem.docOf b with | some s=>.str s t | none=>.none
noncomputable def fnD (d:Stmt) (qual:PySem.Str) (dV kV:Value) (dt:Nat) (pm:Value) (an:Option Addr) (cd ct:Value) (cl:List (PySem.Str × Addr)):FuncData:=
 { name:=Zuo d,qualname:=qual,params:=Zrb d,body:=.stmts (Za7 d),scope:=Ztg d,globals:=3,closure:=cl,defaults:=dV,kwdefaults:=kV,doc:=docV dt (Za7 d),pyModule:=pm,annotations:=an,code:=cd,closureTuple:=ct,builtins:=0 }
noncomputable def KP (p:Program) (P:Params):Frag:=[
 (2,⟨.none,none,(.dict #[] 0),#[]⟩),
 (3,⟨(.type "dict"),none,(.dict #[⟨(PyData.keyHash P (S "__name__")),(.str (S "__name__") 165),(.str (S "law_dm0058_01") 592)⟩,⟨(PyData.keyHash P (S "__doc__")),(.str (S "__doc__") 166),.none⟩,⟨(PyData.keyHash P (S "__package__")),(.str (S "__package__") 167),.none⟩,⟨(PyData.keyHash P (S "__loader__")),(.str (S "__loader__") 168),(.builtin "__main__.__loader__#opaque")⟩,⟨(PyData.keyHash P (S "__spec__")),(.str (S "__spec__") 169),.none⟩,⟨(PyData.keyHash P (S "__annotations__")),(.str (S "__annotations__") 170),(.ref 6)⟩,⟨(PyData.keyHash P (S "__builtins__")),(.str (S "__builtins__") 171),(.ref 4)⟩,⟨(PyData.keyHash P (S "__file__")),(.str (S "__file__") 173),(.str (S "/claim/cut.py") 172)⟩,⟨(PyData.keyHash P (S "__cached__")),(.str (S "__cached__") 174),.none⟩,⟨(PyData.keyHash P (S "_wall")),(.str (S "_wall") 193),(.ref 21)⟩,⟨(PyData.keyHash P (S "_tuplegetter")),(.str (S "_tuplegetter") 252),(.ref 60)⟩,⟨(PyData.keyHash P (S "Match")),(.str (S "Match") 380),(.ref 135)⟩,⟨(PyData.keyHash P (S "_calculate_ratio")),(.str (S "_calculate_ratio") 388),(.ref 145)⟩,⟨(PyData.keyHash P (S "SequenceMatcher")),(.str (S "SequenceMatcher") 591),(.ref 242)⟩,⟨(PyData.keyHash P (S "_law_trimmed")),(.str (S "_law_trimmed") 599),(.ref 251)⟩,⟨(PyData.keyHash P (S "law")),(.str (S "law") 625),(.ref 258)⟩] 16),#[]⟩),
 (20,⟨(.type "code"),none,(.fields #[(.str (S "_wall") 187),(.str (S "_wall") 188),(.str (S "/claim/cut.py") 189),(.int 1 0),(.int 1 0),(.int 0 0),(.int 0 0),(.int 3 0),(.ref 15),(.bool true),(.int 181 0),(.ref 16),.none,(.ref 17),(.ref 18),(.ref 19),(.int 191 0),(.int 1 0),(.str (S "/claim/cut.py") 192)]),#[]⟩),
 (21,⟨(.type "function"),none,(.func (fnD (topS p 0) (S "_wall") .none .none 0 (.str (S "__main__") 164) none (.ref 20) .none [])),#[]⟩),
 (68,⟨(.type "cell"),none,(.cell (some (.ref 135))),#[]⟩),
 (75,⟨(.type "dict"),none,(.dict #[] 0),#[]⟩),
 (81,⟨(.type "code"),none,(.fields #[(.str (S "__new__") 274),(.str (S "Match.__new__") 275),(.str (S "/claim/cut.py") 276),(.int 29 0),(.int 4 0),(.int 0 0),(.int 0 0),(.int 3 0),(.ref 76),(.bool true),(.int 181 0),(.ref 77),.none,(.ref 78),(.ref 79),(.ref 80),(.int 281 0),(.int 29 0),(.str (S "/claim/cut.py") 282)]),#[]⟩),
 (82,⟨(.type "function"),none,(.func (fnD (inS (topS p 3) 4) (S "Match.__new__") .none .none 283 (.str (S "cpy313.difflib") 194) none (.ref 81) .none [])),#[]⟩),
 (88,⟨(.type "code"),none,(.fields #[(.str (S "_make") 285),(.str (S "Match._make") 286),(.str (S "/claim/cut.py") 287),(.int 33 0),(.int 2 0),(.int 0 0),(.int 0 0),(.int 3 0),(.ref 83),(.bool true),(.int 181 0),(.ref 84),.none,(.ref 85),(.ref 86),(.ref 87),(.int 291 0),(.int 33 0),(.str (S "/claim/cut.py") 292)]),#[]⟩),
 (89,⟨(.type "function"),none,(.func (fnD (inS (topS p 3) 5) (S "Match._make") .none .none 293 (.str (S "cpy313.difflib") 194) (some 92) (.ref 88) .none [])),#[]⟩),
 (90,⟨(.type "dict"),none,(.dict #[⟨(PyData.keyHash P (S "__module__")),(.str (S "__module__") 295),(.str (S "cpy313.difflib") 194)⟩,⟨(PyData.keyHash P (S "__name__")),(.str (S "__name__") 298),(.str (S "_make") 297)⟩,⟨(PyData.keyHash P (S "__qualname__")),(.str (S "__qualname__") 301),(.str (S "Match._make") 300)⟩,⟨(PyData.keyHash P (S "__doc__")),(.str (S "__doc__") 303),(.str (docS (inS (topS p 3) 5)) 293)⟩,⟨(PyData.keyHash P (S "__annotations__")),(.str (S "__annotations__") 305),(.ref 92)⟩] 5),#[]⟩),
 (91,⟨(.type "classmethod"),(some 90),(.fields #[(.ref 89),(.bool false)]),#[]⟩),
 (92,⟨(.type "dict"),none,(.dict #[] 0),#[]⟩),
 (99,⟨(.type "code"),none,(.fields #[(.str (S "_replace") 307),(.str (S "Match._replace") 308),(.str (S "/claim/cut.py") 309),(.int 41 0),(.int 1 0),(.int 1 0),(.int 0 0),(.int 11 0),(.ref 94),(.bool true),(.int 181 0),(.ref 95),.none,(.ref 96),(.ref 97),(.ref 98),(.int 314 0),(.int 41 0),(.str (S "/claim/cut.py") 315)]),#[]⟩),
 (100,⟨(.type "function"),none,(.func (fnD (inS (topS p 3) 6) (S "Match._replace") .none .none 316 (.str (S "cpy313.difflib") 194) none (.ref 99) (.ref 93) [((S "__class__"),68)])),#[]⟩),
 (106,⟨(.type "code"),none,(.fields #[(.str (S "__repr__") 319),(.str (S "Match.__repr__") 320),(.str (S "/claim/cut.py") 321),(.int 52 0),(.int 1 0),(.int 0 0),(.int 0 0),(.int 3 0),(.ref 101),(.bool true),(.int 181 0),(.ref 102),.none,(.ref 103),(.ref 104),(.ref 105),(.int 323 0),(.int 52 0),(.str (S "/claim/cut.py") 324)]),#[]⟩),
 (107,⟨(.type "function"),none,(.func (fnD (inS (topS p 3) 8) (S "Match.__repr__") .none .none 325 (.str (S "cpy313.difflib") 194) none (.ref 106) .none [])),#[]⟩),
 (113,⟨(.type "code"),none,(.fields #[(.str (S "_asdict") 327),(.str (S "Match._asdict") 328),(.str (S "/claim/cut.py") 329),(.int 56 0),(.int 1 0),(.int 0 0),(.int 0 0),(.int 3 0),(.ref 108),(.bool true),(.int 181 0),(.ref 109),.none,(.ref 110),(.ref 111),(.ref 112),(.int 331 0),(.int 56 0),(.str (S "/claim/cut.py") 332)]),#[]⟩),
 (114,⟨(.type "function"),none,(.func (fnD (inS (topS p 3) 9) (S "Match._asdict") .none .none 0 (.str (S "cpy313.difflib") 194) none (.ref 113) .none [])),#[]⟩),
 (120,⟨(.type "code"),none,(.fields #[(.str (S "__getnewargs__") 334),(.str (S "Match.__getnewargs__") 335),(.str (S "/claim/cut.py") 336),(.int 59 0),(.int 1 0),(.int 0 0),(.int 0 0),(.int 3 0),(.ref 115),(.bool true),(.int 181 0),(.ref 116),.none,(.ref 117),(.ref 118),(.ref 119),(.int 338 0),(.int 59 0),(.str (S "/claim/cut.py") 339)]),#[]⟩),
 (121,⟨(.type "function"),none,(.func (fnD (inS (topS p 3) 10) (S "Match.__getnewargs__") .none .none 340 (.str (S "cpy313.difflib") 194) none (.ref 120) .none [])),#[]⟩),
 (134,⟨(.type "dict"),none,(.dict #[⟨(PyData.keyHash P (S "__module__")),(.str (S "__module__") 260),(.str (S "cpy313.difflib") 194)⟩,⟨(PyData.keyHash P (S "__firstlineno__")),(.str (S "__firstlineno__") 264),(.int 23 263)⟩,⟨(PyData.keyHash P (S "__doc__")),(.str (S "__doc__") 266),(.str (S "Match(a, b, size)") 265)⟩,⟨(PyData.keyHash P (S "__slots__")),(.str (S "__slots__") 268),(.ref 73)⟩,⟨(PyData.keyHash P (S "_fields")),(.str (S "_fields") 272),(.ref 74)⟩,⟨(PyData.keyHash P (S "_field_defaults")),(.str (S "_field_defaults") 273),(.ref 75)⟩,⟨(PyData.keyHash P (S "__new__")),(.str (S "__new__") 284),(.ref 136)⟩,⟨(PyData.keyHash P (S "_make")),(.str (S "_make") 306),(.ref 91)⟩,⟨(PyData.keyHash P (S "_replace")),(.str (S "_replace") 317),(.ref 100)⟩,⟨(PyData.keyHash P (S "__replace__")),(.str (S "__replace__") 318),(.ref 100)⟩,⟨(PyData.keyHash P (S "__repr__")),(.str (S "__repr__") 326),(.ref 107)⟩,⟨(PyData.keyHash P (S "_asdict")),(.str (S "_asdict") 333),(.ref 114)⟩,⟨(PyData.keyHash P (S "__getnewargs__")),(.str (S "__getnewargs__") 341),(.ref 121)⟩,⟨(PyData.keyHash P (S "__match_args__")),(.str (S "__match_args__") 345),(.ref 122)⟩,⟨(PyData.keyHash P (S "a")),(.str (S "a") 355),(.ref 124)⟩,⟨(PyData.keyHash P (S "b")),(.str (S "b") 365),(.ref 127)⟩,⟨(PyData.keyHash P (S "size")),(.str (S "size") 375),(.ref 130)⟩,⟨(PyData.keyHash P (S "__static_attributes__")),(.str (S "__static_attributes__") 376),(.ref 132)⟩] 2),#[]⟩),
 (135,⟨(.type "type"),none,(.cls { name:=(S "Match"),bases:=[(.type "tuple")],mro:=[(.ref 135),(.type "tuple"),(.type "object")],ns:=134,qualname:=(S "Match"),hasDict:=false,slotNames:=[],subclasses:=[],abstract:=false,collection:=none,hasDel:=false }),#[(some (.ref 65)),none,(some (.str (S "Match") 253)),(some (.str (S "Match") 261)),(some .none),(some (.bool false))]⟩),
 (136,⟨(.type "staticmethod"),none,(.fields #[(.ref 82)]),#[]⟩),
 (144,⟨(.type "code"),none,(.fields #[(.str (S "_calculate_ratio") 381),(.str (S "_calculate_ratio") 382),(.str (S "/claim/cut.py") 383),(.int 66 0),(.int 2 0),(.int 0 0),(.int 0 0),(.int 3 0),(.ref 139),(.bool true),(.int 181 0),(.ref 140),.none,(.ref 141),(.ref 142),(.ref 143),(.int 386 0),(.int 66 0),(.str (S "/claim/cut.py") 387)]),#[]⟩),
 (145,⟨(.type "function"),none,(.func (fnD (topS p 4) (S "_calculate_ratio") .none .none 0 (.str (S "cpy313.difflib") 194) none (.ref 144) .none [])),#[]⟩),
 (153,⟨(.type "tuple"),none,(.seq #[.none,(.str (S "") 404),(.str (S "") 405),(.bool true)] 0),#[]⟩),
 (159,⟨(.type "code"),none,(.fields #[(.str (S "__init__") 406),(.str (S "SequenceMatcher.__init__") 407),(.str (S "/claim/cut.py") 408),(.int 145 0),(.int 5 0),(.int 0 0),(.int 0 0),(.int 3 0),(.ref 154),(.bool true),(.int 181 0),(.ref 155),.none,(.ref 156),(.ref 157),(.ref 158),(.int 414 0),(.int 145 0),(.str (S "/claim/cut.py") 415)]),#[]⟩),
 (160,⟨(.type "function"),none,(.func (fnD (inS (topS p 5) 1) (S "SequenceMatcher.__init__") (.ref 153) .none 416 (.str (S "cpy313.difflib") 194) none (.ref 159) .none [])),#[]⟩),
 (166,⟨(.type "code"),none,(.fields #[(.str (S "set_seqs") 418),(.str (S "SequenceMatcher.set_seqs") 419),(.str (S "/claim/cut.py") 420),(.int 173 0),(.int 3 0),(.int 0 0),(.int 0 0),(.int 3 0),(.ref 161),(.bool true),(.int 181 0),(.ref 162),.none,(.ref 163),(.ref 164),(.ref 165),(.int 424 0),(.int 173 0),(.str (S "/claim/cut.py") 425)]),#[]⟩),
 (167,⟨(.type "function"),none,(.func (fnD (inS (topS p 5) 2) (S "SequenceMatcher.set_seqs") .none .none 426 (.str (S "cpy313.difflib") 194) none (.ref 166) .none [])),#[]⟩),
 (173,⟨(.type "code"),none,(.fields #[(.str (S "set_seq1") 428),(.str (S "SequenceMatcher.set_seq1") 429),(.str (S "/claim/cut.py") 430),(.int 184 0),(.int 2 0),(.int 0 0),(.int 0 0),(.int 3 0),(.ref 168),(.bool true),(.int 181 0),(.ref 169),.none,(.ref 170),(.ref 171),(.ref 172),(.int 433 0),(.int 184 0),(.str (S "/claim/cut.py") 434)]),#[]⟩),
 (174,⟨(.type "function"),none,(.func (fnD (inS (topS p 5) 3) (S "SequenceMatcher.set_seq1") .none .none 435 (.str (S "cpy313.difflib") 194) none (.ref 173) .none [])),#[]⟩),
 (180,⟨(.type "code"),none,(.fields #[(.str (S "set_seq2") 437),(.str (S "SequenceMatcher.set_seq2") 438),(.str (S "/claim/cut.py") 439),(.int 209 0),(.int 2 0),(.int 0 0),(.int 0 0),(.int 3 0),(.ref 175),(.bool true),(.int 181 0),(.ref 176),.none,(.ref 177),(.ref 178),(.ref 179),(.int 442 0),(.int 209 0),(.str (S "/claim/cut.py") 443)]),#[]⟩),
 (181,⟨(.type "function"),none,(.func (fnD (inS (topS p 5) 4) (S "SequenceMatcher.set_seq2") .none .none 444 (.str (S "cpy313.difflib") 194) none (.ref 180) .none [])),#[]⟩),
 (187,⟨(.type "code"),none,(.fields #[(.str (S "__chain_b") 446),(.str (S "SequenceMatcher.__chain_b") 447),(.str (S "/claim/cut.py") 448),(.int 236 0),(.int 1 0),(.int 0 0),(.int 0 0),(.int 3 0),(.ref 182),(.bool true),(.int 181 0),(.ref 183),.none,(.ref 184),(.ref 185),(.ref 186),(.int 461 0),(.int 236 0),(.str (S "/claim/cut.py") 462)]),#[]⟩),
 (188,⟨(.type "function"),none,(.func (fnD (inS (topS p 5) 5) (S "SequenceMatcher.__chain_b") .none .none 0 (.str (S "cpy313.difflib") 194) none (.ref 187) .none [])),#[]⟩),
 (189,⟨(.type "tuple"),none,(.seq #[(.int 0 464),.none,(.int 0 465),.none] 0),#[]⟩),
 (195,⟨(.type "code"),none,(.fields #[(.str (S "find_longest_match") 466),(.str (S "SequenceMatcher.find_longest_match") 467),(.str (S "/claim/cut.py") 468),(.int 260 0),(.int 5 0),(.int 0 0),(.int 0 0),(.int 3 0),(.ref 190),(.bool true),(.int 181 0),(.ref 191),.none,(.ref 192),(.ref 193),(.ref 194),(.int 488 0),(.int 260 0),(.str (S "/claim/cut.py") 489)]),#[]⟩),
 (196,⟨(.type "function"),none,(.func (fnD (inS (topS p 5) 6) (S "SequenceMatcher.find_longest_match") (.ref 189) .none 490 (.str (S "cpy313.difflib") 194) none (.ref 195) .none [])),#[]⟩),
 (202,⟨(.type "code"),none,(.fields #[(.str (S "get_matching_blocks") 492),(.str (S "SequenceMatcher.get_matching_blocks") 493),(.str (S "/claim/cut.py") 494),(.int 335 0),(.int 1 0),(.int 0 0),(.int 0 0),(.int 3 0),(.ref 197),(.bool true),(.int 181 0),(.ref 198),.none,(.ref 199),(.ref 200),(.ref 201),(.int 515 0),(.int 335 0),(.str (S "/claim/cut.py") 516)]),#[]⟩),
 (203,⟨(.type "function"),none,(.func (fnD (inS (topS p 5) 7) (S "SequenceMatcher.get_matching_blocks") .none .none 517 (.str (S "cpy313.difflib") 194) none (.ref 202) .none [])),#[]⟩),
 (209,⟨(.type "code"),none,(.fields #[(.str (S "get_opcodes") 519),(.str (S "SequenceMatcher.get_opcodes") 520),(.str (S "/claim/cut.py") 521),(.int 383 0),(.int 1 0),(.int 0 0),(.int 0 0),(.int 3 0),(.ref 204),(.bool true),(.int 181 0),(.ref 205),.none,(.ref 206),(.ref 207),(.ref 208),(.int 530 0),(.int 383 0),(.str (S "/claim/cut.py") 531)]),#[]⟩),
 (210,⟨(.type "function"),none,(.func (fnD (inS (topS p 5) 8) (S "SequenceMatcher.get_opcodes") .none .none 532 (.str (S "cpy313.difflib") 194) none (.ref 209) .none [])),#[]⟩),
 (211,⟨(.type "tuple"),none,(.seq #[(.int 3 534)] 0),#[]⟩),
 (217,⟨(.type "code"),none,(.fields #[(.str (S "get_grouped_opcodes") 535),(.str (S "SequenceMatcher.get_grouped_opcodes") 536),(.str (S "/claim/cut.py") 537),(.int 430 0),(.int 2 0),(.int 0 0),(.int 0 0),(.int 35 0),(.ref 212),(.bool true),(.int 181 0),(.ref 213),.none,(.ref 214),(.ref 215),(.ref 216),(.int 548 0),(.int 430 0),(.str (S "/claim/cut.py") 549)]),#[]⟩),
 (218,⟨(.type "function"),none,(.func (fnD (inS (topS p 5) 9) (S "SequenceMatcher.get_grouped_opcodes") (.ref 211) .none 550 (.str (S "cpy313.difflib") 194) none (.ref 217) .none [])),#[]⟩),
 (224,⟨(.type "code"),none,(.fields #[(.str (S "ratio") 552),(.str (S "SequenceMatcher.ratio") 553),(.str (S "/claim/cut.py") 554),(.int 475 0),(.int 1 0),(.int 0 0),(.int 0 0),(.int 3 0),(.ref 219),(.bool true),(.int 181 0),(.ref 220),.none,(.ref 221),(.ref 222),(.ref 223),(.int 557 0),(.int 475 0),(.str (S "/claim/cut.py") 558)]),#[]⟩),
 (225,⟨(.type "function"),none,(.func (fnD (inS (topS p 5) 10) (S "SequenceMatcher.ratio") .none .none 559 (.str (S "cpy313.difflib") 194) none (.ref 224) .none [])),#[]⟩),
 (231,⟨(.type "code"),none,(.fields #[(.str (S "quick_ratio") 561),(.str (S "SequenceMatcher.quick_ratio") 562),(.str (S "/claim/cut.py") 563),(.int 499 0),(.int 1 0),(.int 0 0),(.int 0 0),(.int 3 0),(.ref 226),(.bool true),(.int 181 0),(.ref 227),.none,(.ref 228),(.ref 229),(.ref 230),(.int 565 0),(.int 499 0),(.str (S "/claim/cut.py") 566)]),#[]⟩),
 (232,⟨(.type "function"),none,(.func (fnD (inS (topS p 5) 11) (S "SequenceMatcher.quick_ratio") .none .none 0 (.str (S "cpy313.difflib") 194) none (.ref 231) .none [])),#[]⟩),
 (238,⟨(.type "code"),none,(.fields #[(.str (S "real_quick_ratio") 568),(.str (S "SequenceMatcher.real_quick_ratio") 569),(.str (S "/claim/cut.py") 570),(.int 502 0),(.int 1 0),(.int 0 0),(.int 0 0),(.int 3 0),(.ref 233),(.bool true),(.int 181 0),(.ref 234),.none,(.ref 235),(.ref 236),(.ref 237),(.int 572 0),(.int 502 0),(.str (S "/claim/cut.py") 573)]),#[]⟩),
 (239,⟨(.type "function"),none,(.func (fnD (inS (topS p 5) 12) (S "SequenceMatcher.real_quick_ratio") .none .none 0 (.str (S "cpy313.difflib") 194) none (.ref 238) .none [])),#[]⟩),
 (241,⟨(.type "dict"),none,(.dict #[⟨(PyData.keyHash P (S "__module__")),(.str (S "__module__") 396),(.str (S "cpy313.difflib") 194)⟩,⟨(PyData.keyHash P (S "__firstlineno__")),(.str (S "__firstlineno__") 400),(.int 70 399)⟩,⟨(PyData.keyHash P (S "__doc__")),(.str (S "__doc__") 402),(.str (docS (topS p 5)) 401)⟩,⟨(PyData.keyHash P (S "__init__")),(.str (S "__init__") 417),(.ref 160)⟩,⟨(PyData.keyHash P (S "set_seqs")),(.str (S "set_seqs") 427),(.ref 167)⟩,⟨(PyData.keyHash P (S "set_seq1")),(.str (S "set_seq1") 436),(.ref 174)⟩,⟨(PyData.keyHash P (S "set_seq2")),(.str (S "set_seq2") 445),(.ref 181)⟩,⟨(PyData.keyHash P (S "_SequenceMatcher__chain_b")),(.str (S "_SequenceMatcher__chain_b") 463),(.ref 188)⟩,⟨(PyData.keyHash P (S "find_longest_match")),(.str (S "find_longest_match") 491),(.ref 196)⟩,⟨(PyData.keyHash P (S "get_matching_blocks")),(.str (S "get_matching_blocks") 518),(.ref 203)⟩,⟨(PyData.keyHash P (S "get_opcodes")),(.str (S "get_opcodes") 533),(.ref 210)⟩,⟨(PyData.keyHash P (S "get_grouped_opcodes")),(.str (S "get_grouped_opcodes") 551),(.ref 218)⟩,⟨(PyData.keyHash P (S "ratio")),(.str (S "ratio") 560),(.ref 225)⟩,⟨(PyData.keyHash P (S "quick_ratio")),(.str (S "quick_ratio") 567),(.ref 232)⟩,⟨(PyData.keyHash P (S "real_quick_ratio")),(.str (S "real_quick_ratio") 574),(.ref 239)⟩,⟨(PyData.keyHash P (S "__static_attributes__")),(.str (S "__static_attributes__") 585),(.ref 240)⟩,⟨(PyData.keyHash P (S "__dict__")),(.str (S "__dict__") 587),(.ref 243)⟩,⟨(PyData.keyHash P (S "__weakref__")),(.str (S "__weakref__") 589),(.ref 244)⟩] 3),#[]⟩),
 (242,⟨(.type "type"),none,(.cls { name:=(S "SequenceMatcher"),bases:=[(.type "object")],mro:=[(.ref 242),(.type "object")],ns:=241,qualname:=(S "SequenceMatcher"),hasDict:=true,slotNames:=[],subclasses:=[],abstract:=false,collection:=none,hasDel:=false }),#[none,none,(some (.str (S "SequenceMatcher") 389)),(some (.str (S "SequenceMatcher") 397)),(some (.builtin "object.__new__")),(some (.bool true))]⟩),
 (250,⟨(.type "code"),none,(.fields #[(.str (S "_law_trimmed") 594),(.str (S "_law_trimmed") 595),(.str (S "/claim/cut.py") 596),(.int 505 0),(.int 2 0),(.int 0 0),(.int 0 0),(.int 3 0),(.ref 247),(.bool true),(.int 181 0),(.ref 248),.none,.none,.none,(.ref 249),(.int 597 0),(.int 505 0),(.str (S "/claim/cut.py") 598)]),#[]⟩),
 (251,⟨(.type "function"),none,(.func (fnD (topS p 7) (S "_law_trimmed") .none .none 0 (.str (S "law_dm0058_01") 592) none (.ref 250) .none [])),#[]⟩),
 (257,⟨(.type "code"),none,(.fields #[(.str (S "law") 600),(.str (S "law") 601),(.str (S "/claim/cut.py") 602),(.int 515 0),(.int 1 0),(.int 0 0),(.int 0 0),(.int 3 0),(.ref 252),(.bool true),(.int 181 0),(.ref 253),.none,(.ref 254),(.ref 255),(.ref 256),(.int 623 0),(.int 515 0),(.str (S "/claim/cut.py") 624)]),#[]⟩),
 (258,⟨(.type "function"),none,(.func (fnD (topS p 8) (S "law") .none .none 0 (.str (S "law_dm0058_01") 592) none (.ref 257) .none [])),#[]⟩)]
noncomputable def Kas:List Addr:=[2,3,20,21,68,75,81,82,88,89,90,91,92,99,100,106,107,113,114,120,121,134,135,136,144,145,153,159,160,166,167,173,174,180,181,187,188,189,195,196,202,203,209,210,211,217,218,224,225,231,232,238,239,241,242,250,251,257,258]

theorem Ztn (p:Program) (P:Params):Kas=(KP p P).map (·.1):=rfl
noncomputable def xtV (s:Shared):Bool:=xlAt qV [] s && recOk [] s
noncomputable def obsT (w:World) (s:SharedT):=((staticsOk (importedModules pT.main.body) (boot_heap w.params) s.abs.heap && namesBound pT s.abs.heap && gensDone s.abs && laidKept (boot_heap w.params) s.abs.heap),
 PySem.W.Fast.tw4187177175401517315 qV Zcg (importedModules pT.main.body) xtV true s.abs,Kas.map s.abs.heap.get?,s.os)
set_option maxRecDepth 100000 in
theorem big:∀ (w:World),(λos=>(theRun w os).map (obsT w))=(λos=>some (true,openGood qV Zcg,(KP pT w.params).map (λp=>some p.2),os)):=λw=>by kernel_rfl
noncomputable def hkV:Hook:=kHook (KP PySem.Challenge.pw_dm0058_01) Kas (Ztn _)
theorem Zup:∀ w:World,(fencedOpening treeTable PySem.Challenge.pw_dm0058_01 w 4600).map (λs=>(s.heap,s.gens,s.drawn,s.toks))=some (boot_heap w.params,Array.mk [],boot_drawn,boot_toks):=
 boot_open rfl (by decide) (λ_=>rfl)
theorem Zt5 (w:World):((boot_heap w.params).isNs mainGlobals && (Array.mk []:Array GenState).size == 0,(boot_heap w.params).objs.size,(boot_heap w.params).nsMap mainGlobals "__annotations__")=(true,11,some (.ref 6)):=by kernel_rfl
theorem Zr9 (w:World) (os:OsState):(S0 w os).abs=⟨boot_heap w.params,#[],boot_drawn,boot_toks,os⟩:=by delta S0 SharedT.abs;dsimp only[Zo3]
theorem runV {w:World}{os:OsState}{s':SharedT} (hs:theRun w os=some s'):topRun treeTable PySem.Challenge.pw_dm0058_01 w 11 (some (.ref 6)) 4600 ⟨boot_heap w.params,#[],boot_drawn,boot_toks,os⟩ (topStub PySem.Challenge.pw_dm0058_01)=some s'.abs:=by unfold theRun at hs;have r:=Zji hs;rw[Zr9,<-Zn3]at r;exact topRun_mono 2300 _ _ _ _ r
theorem bigV (w:World) (os:OsState):(theRun w os).map (obsT w)=some (true,openGood qV Zcg,(KP pT w.params).map (λp=>some p.2),os):=congrFun (big w) os
theorem obsV {w:World}{os:OsState}{s':SharedT} (hs:theRun w os=some s'):obsT w s'=(true,openGood qV Zcg,(KP pT w.params).map (λp=>some p.2),os):=by have b:=bigV w os;rw[hs]at b;exact Option.some.inj b
theorem Zuf {w:World}{os:OsState}{s':SharedT} (hs:theRun w os=some s') :
  (staticsOk (importedModules PySem.Challenge.pw_dm0058_01.main.body) (boot_heap w.params) s'.abs.heap && namesBound PySem.Challenge.pw_dm0058_01 s'.abs.heap && gensDone s'.abs && laidKept (boot_heap w.params) s'.abs.heap)=true:=by
 refine Zn3▸?_;exact congrArg (·.1) (obsV hs)
theorem Zue {w:World}{os:OsState}{s':SharedT} (hs:theRun w os=some s'):openSeen qV Zcg (importedModules PySem.Challenge.pw_dm0058_01.main.body) xtV true s'.abs=openGood qV Zcg:=by refine Zn3▸PySem.W.Fast.te4187177175401517315▸?_;exact congrArg (·.2.1) (obsV hs)
theorem Zud {w:World}{os:OsState}{s':SharedT} (hs:theRun w os=some s'):Kas.map s'.abs.heap.get?=(KP PySem.Challenge.pw_dm0058_01 w.params).map (λp=>some p.2):=by rw[Zn3];exact congrArg (·.2.2.1) (obsV hs)
theorem topV {w:World}{os:OsState}{s':SharedT} (hs:theRun w os=some s'):topFrom treeTable PySem.Challenge.pw_dm0058_01 w 4600 ⟨boot_heap w.params,#[],boot_drawn,boot_toks,os⟩=some s'.abs:=by
 obtain ⟨z1,z2,z3⟩:_/\_/\_:=by simpa only [Prod.mk.injEq] using Zt5 w
 unfold topFrom;dsimp only;rw[z1,z2,z3,runV hs];show (match staticsOk _ _ _ && namesBound _ _ && gensDone _ && laidKept _ _ with | true=>_ | false=>_)=_;rw[Zuf hs]
theorem Zt4 (w:World) (os:OsState):∃ s',theRun w os=some s':=by
 have b:=bigV w os;revert b;generalize theRun w os=x;cases x with
 | none=>intro b;cases b
 | some s'=>intro _;exact ⟨s',rfl⟩
theorem Zsp {w:World}{os:OsState}{s':SharedT} (hs:theRun w os=some s'):Hook.obs hkV s'.abs=Hook.val hkV w:=Zud hs
theorem Zuc {w:World}{os:OsState}{s':SharedT} (hs:theRun w os=some s'):(topFrom treeTable PySem.Challenge.pw_dm0058_01 w 4600 ⟨boot_heap w.params,#[],boot_drawn,boot_toks,os⟩).map (λs=>(openSeen qV Zcg (importedModules PySem.Challenge.pw_dm0058_01.main.body) xtV true s,Hook.obs hkV s))=some (openGood qV Zcg,Hook.val hkV w):=by rw[topV hs];show some (openSeen qV Zcg (importedModules PySem.Challenge.pw_dm0058_01.main.body) xtV true s'.abs,Hook.obs hkV s'.abs)=_;rw[Zue hs,Zsp hs]
theorem Zti (w:World):∃ os,fencedOpening treeTable PySem.Challenge.pw_dm0058_01 w 4600=some ⟨boot_heap w.params,#[],boot_drawn,boot_toks,os⟩:=by
 have b:=Zup w;revert b;generalize fencedOpening treeTable PySem.Challenge.pw_dm0058_01 w 4600=x;cases x with
 | none=>intro b;cases b
 | some s=>
  obtain ⟨h,gs,d,k,os⟩:=s;intro b;have b:=Option.some.inj b;have e1:h=boot_heap w.params:=congrArg (·.1) b;have e2:gs = #[]:=congrArg (·.2.1) b;have e3:d=boot_drawn:=congrArg (·.2.2.1) b;have e4:k=boot_toks:=congrArg (·.2.2.2) b;exact ⟨os,by exact e1▸e2▸e3▸e4▸rfl⟩
theorem left:LeftO PySem.Challenge.pw_dm0058_01 qV Zcg xtV (Hook.obs hkV) (Hook.val hkV) 4600:=by intro w;obtain ⟨os,e⟩:=Zti w;obtain ⟨s',hs⟩:=Zt4 w os;unfold openEnds;rw[e];rw[Option.bind_some];exact Zuc hs

noncomputable abbrev Zf2 (w:World) (s:Shared) (l:Addr):Prop:=
 wpAny (model PySem.Challenge.pw_dm0058_01 w) callerA (call (.ref 258) [.ref l])
  (λv s'=>v = .bool true/\OldK s.heap s'.heap/\s'.os=s.os/\AllBare s'.gens) (λ_ _=>False) s
theorem Zsj {w:World}{h:Heap}{mg:PySem.Str->Option Value} (X:(KP PySem.Challenge.pw_dm0058_01 w.params).In h) (g:h.Ns mainGlobals mg):mg (S "law")=some (.ref 258):=by refine aw g λo es ep ho hd _ hm=>?_;rw[<-hm];have e:=X 3 _ (show _=some _ from rfl);rw[show mainGlobals=3 from rfl,e]at ho;cases ho;cases hd;kernel_rfl
set_option maxHeartbeats 8000000 in
theorem head (walk:∀ (w:World) (s:Shared) (mean:ExcName->Option Value) (mg mb:PySem.Str->Option Value) (l:Addr) (vs:List Value) (ns:List Int),
   Top qV (looseW qV Zcg) mean mg mb s.heap->(KP PySem.Challenge.pw_dm0058_01 w.params).In s.heap->s.gens = #[]->s.heap.IsList l vs.toArray->IntsAre vs ns->ns.length<=63 ->
   (PyData.list (ns.map PyData.int)).layable0=true->Zf2 w s l):PySem.Challenge.rw_dm0058_01.Holds:=by
 w_on
 refine holds_law (by kernel_rfl) λsaid=>?_;refine holds_open (q:=qV) (loose:=Zcg) (Xt:=xtV) (XP:=XL qV []) (Yf:=Hook.obs hkV) (Ya:=Hook.val hkV) (YP:=Hook.says hkV) (N:=4600) left (Hook.of hkV) (Hook.keeps hkV) (λs e=>xl_of s (Bool.and_eq_true_iff.mp e).1) XL.keeps (by rfl) (by rfl) (by rfl) (λs e=>recFacts_of (Bool.and_eq_true_iff.mp e).2) (by rfl) ‹_› (by decide +kernel) ⟨rfl,rfl,rfl,rfl,rfl,by decide +kernel⟩ ?hw ?hc
 case hw=>w_witness2
 intro w s₀ s₁ mg mb G Y fa o pm cd doc dV kV ho hd hcd hD hmg hg args vals as hpre hlay hrd hwl hlo;have X:(KP PySem.Challenge.pw_dm0058_01 w.params).In s₁.heap:=Y;have T:=G.T;clear ho hd hcd hD Y;have hfa:fa=258:=by have h1:=Zsj X T.g;have h2:mg (S "law")=some (.ref fa):=hmg;rw[h1]at h2;cases h2;rfl
 subst hfa;clear hmg
 wrow_args hpre hlay hrd hwl hlo
 rename_i ns _ _ hL _ _ _ _ l vs _ hl _ _ _ hI _ hc _;refine wpAny_mono (walk w s₁ _ mg mb l vs ns T X hg hl hI (by omega) hL) (λv s' h=>?_) (λ_ _ h=>h.elim);refine ak h λhv hk hos hb=>?_;subst hv;exact ⟨.inl ⟨_,.bool true,[],rfl,λ_=>rfl,.bool true,by kernel_rfl,λ_=>⟨List.nodup_nil,λ_ h=>by cases h⟩⟩,hk,hos,hb⟩
set_option tactic.hygienic false
noncomputable abbrev PW:=PySem.Challenge.pw_dm0058_01
noncomputable def BadP (w:World):Prop:=∃ (s:Shared) (mean:ExcName->Option Value) (mg mb:PySem.Str->Option Value) (l:Addr) (vs:List Value) (ns:List Int),Top qV (looseW qV Zcg) mean mg mb s.heap/\(KP PySem.Challenge.pw_dm0058_01 w.params).In s.heap/\s.gens = #[]/\s.heap.IsList l vs.toArray/\IntsAre vs ns/\ns.length<=63/\¬ Zf2 w s l
noncomputable def W0:World:=@Classical.epsilon _ ⟨⟨λ_ _=>0,{ strHash:=λ_=>0,shareClass:=λ_=>0,mergeTok:=λt=>t,idOf:=λ_=>0,idOfShared:=λ_ _=>0,followText:=λ_=>true,idOfImm:=λ_=>0 }⟩⟩ BadP
theorem Zuj (walk:∀ (s:Shared) (mean:ExcName->Option Value) (mg mb:PySem.Str->Option Value) (l:Addr) (vs:List Value) (ns:List Int),Top qV (looseW qV Zcg) mean mg mb s.heap->(KP PySem.Challenge.pw_dm0058_01 W0.params).In s.heap->s.gens = #[]->s.heap.IsList l vs.toArray->IntsAre vs ns->ns.length<=63->Zf2 W0 s l):PySem.Challenge.rw_dm0058_01.Holds:=
 head λw s mean mg mb l vs ns T X hg hl hI hlen _=>Classical.byContradiction λhn=>by obtain ⟨s,mean,mg,mb,l,vs,ns,T,X,hg,hl,hI,hlen,hn⟩:=Classical.epsilon_spec (p:=BadP) ⟨w,s,mean,mg,mb,l,vs,ns,T,X,hg,hl,hI,hlen,hn⟩;exact hn (walk s mean mg mb l vs ns T X hg hl hI hlen)
inductive AV where
 | none
 | bool (b:Bool)
 | int (i:Int)
 | str (s:PySem.Str)
 | flt (x:UInt64)
 | ref (a:Addr)
 | ty (n:String)
 | bi (id:String)
 | tup (xs:List AV)
 | mat (xs:List AV)
noncomputable abbrev Loc:=PySem.Str->Option AV
inductive AO where
 | list (xs:List AV)
 | ns (m:Loc)
 | atr (m:Loc)
 | obj (o:Obj)
 | cell (v:Option AV)
 | dict (kvs:List (Int × AV))
 | set (f:Int->Bool) (n:Nat)
noncomputable abbrev Hp:=Addr->Option AO
noncomputable def Hp.set (hp:Hp) (a:Addr) (o:AO):Hp:=λb=>if b=a then some o else hp b
theorem Hp.ss (hp:Hp) (a:Addr) (o:AO):(hp.set a o) a=some o:=by simp[Hp.set]
theorem Hp.sn (hp:Hp) {a b:Addr} (o:AO) (h:b≠a):(hp.set a o) b=hp b:=by exact if_neg h
theorem Hp.snt {hp:Hp}{a b:Addr}{o:AO}{r:Option AO} (h:b≠a) (g:hp b=r):(hp.set a o) b=r:=(Hp.sn hp o h).trans g
theorem Hp.snr {hp:Hp}{a b:Addr}{o:AO}{r:Option AO} (h:b≠a) (g:(hp.set a o) b=r):hp b=r:=(Hp.sn hp o h).symm.trans g
theorem Hp.set_set (hp:Hp) (a:Addr) (o o':AO):(hp.set a o).set a o'=hp.set a o':=by funext b;by_cases h:b=a <;> simp[Hp.set,h]
theorem Hp.sc (hp:Hp) {a b:Addr} (o o':AO) (h:a≠b):(hp.set a o).set b o'=(hp.set b o').set a o:=by
 funext c;simp only[Hp.set];by_cases h1:c=a
 .by_cases h2:c=b
  .exact absurd (h1.symm.trans h2) h
  .simp [h1,h]
 .by_cases h2:c=b
  .subst h2;simp[h1]
  .simp [h1,h2]
noncomputable abbrev matC:Addr:=135
noncomputable def Imm (o:Obj):Prop:=(o.cls = .type "tuple" \/ o.cls = .ref matC)/\∃ xs n,o.data = .seq xs n
noncomputable def ImmLe (h h':Heap):Prop:=∀ b o,h.get? b=some o->Imm o->h'.get? b=some o
theorem ImmLe.refl (h:Heap):ImmLe h h:=λ_ _ e _=>e
theorem ImmLe.trans {h₁ hV hX:Heap} (x:ImmLe h₁ hV) (y:ImmLe hV hX):ImmLe h₁ hX:=λb o e i=>y b o (x b o e i) i
theorem ImmLe.keep {h h':Heap} (x:∀ b o,h.get? b=some o->h'.get? b=some o):ImmLe h h':=λb o e _=>x b o e
noncomputable def IsMat (h:Heap) (a:Addr) (items:Array Value):Prop:=∃ o,h.get? a=some o/\o.cls = .ref matC/\∃ n,o.data = .seq items n
mutual
noncomputable def VR (h:Heap):AV->Value->Prop
 | .none,v=>v = .none
 | .bool b,v=>v = .bool b
 | .int i,v=>∃ t,v = .int i t
 | .str s,v=>∃ t,v = .str s t
 | .flt x,v=>∃ t,v = .float x t
 | .ref a,v=>v = .ref a
 | .ty n,v=>v = .type n
 | .bi n,v=>v = .builtin n
 | .tup xs,v=>∃ a vs,v = .ref a/\IsTup h a vs/\VRs h xs vs.toList
 | .mat xs,v=>∃ a vs,v = .ref a/\IsMat h a vs/\VRs h xs vs.toList
noncomputable def VRs (h:Heap):List AV->List Value->Prop
 | [],vs=>vs=[]
 | x :: xs,vs=>∃ v r,vs=v :: r/\VR h x v/\VRs h xs r
end
theorem IsTup.imm {h h':Heap} (le:ImmLe h h') {a:Addr}{vs:Array Value} (x:IsTup h a vs):IsTup h' a vs:=let ⟨o,ho,hc,n,r⟩:=x;⟨o,le a o ho ⟨.inl hc,_,n,r⟩,hc,n,r⟩
theorem IsMat.imm {h h':Heap} (le:ImmLe h h') {a:Addr}{vs:Array Value} (x:IsMat h a vs):IsMat h' a vs:=let ⟨o,ho,hc,n,r⟩:=x;⟨o,le a o ho ⟨.inr hc,_,n,r⟩,hc,n,r⟩
mutual
theorem VR.mono {h h':Heap} (le:ImmLe h h'):∀ {x:AV}{v:Value},VR h x v->VR h' x v
 | .none,_,e=>by simpa only [VR] using e
 | .bool _,_,e=>by simpa only [VR] using e
 | .int _,_,e=>by simpa only [VR] using e
 | .str _,_,e=>by simpa only [VR] using e
 | .flt _,_,e=>by simpa only [VR] using e
 | .ref _,_,e=>by simpa only [VR] using e
 | .ty _,_,e=>by simpa only [VR] using e
 | .bi _,_,e=>by simpa only [VR] using e
 | .tup xs,v,e=>by simp only[VR]at e ⊢;refine hide λ_ Z=>?_;refine ad e λa vs e1 e2 e3=>?_;apply Z;clear Z;exact ⟨a,vs,e1,IsTup.imm le e2,VRs.mono le e3⟩
 | .mat xs,v,e=>by simp only[VR]at e ⊢;refine hide λ_ Z=>?_;refine ad e λa vs e1 e2 e3=>?_;apply Z;clear Z;exact ⟨a,vs,e1,IsMat.imm le e2,VRs.mono le e3⟩
theorem VRs.mono {h h':Heap} (le:ImmLe h h'):∀ {xs:List AV}{vs:List Value},VRs h xs vs->VRs h' xs vs
 | [],_,e=>by simpa only [VRs] using e
 | x :: xs,vs,e=>by simp only[VRs]at e ⊢;refine ad e λv r e1 e2 e3=>?_;exact ⟨v,r,e1,VR.mono le e2,VRs.mono le e3⟩
end
theorem VRs.length {h:Heap}:∀ {xs:List AV}{vs:List Value},VRs h xs vs->vs.length=xs.length
 | [],_,e=>by simp only[VRs]at e;subst e;rfl
 | x :: xs,vs,e=>by simp only[VRs]at e;obtain ⟨v,r,rfl,_,e3⟩:=e;simp[VRs.length e3]
theorem VRs.append {h:Heap}:∀ {xs ys:List AV}{vs ws:List Value},VRs h xs vs->VRs h ys ws->VRs h (xs ++ ys) (vs ++ ws)
 | [],_,_,_,e,e'=>by simp only[VRs]at e;subst e;exact e'
 | x :: xs,ys,vs,ws,e,e'=>by simp only[VRs]at e;refine ad e λv r V e2 e3=>?_;clear e;subst V;dsimp only[List.cons_append,VRs];exact ⟨v,r ++ ws,rfl,e2,VRs.append e3 e'⟩
theorem VRs.one {h:Heap}{x:AV}{v:Value} (e:VR h x v):VRs h [x] [v]:=by simp only[VRs];exact ⟨v,[],rfl,e,rfl⟩
theorem VRs.get {h:Heap}:∀ {xs:List AV}{vs:List Value}{i:Nat}{x:AV},VRs h xs vs->xs[i]?=some x->∃ v,vs[i]?=some v/\VR h x v
 | [],_,_,_,_,e=>by nomatch e
 | y :: xs,vs,0,x,e,hx=>by simp only[VRs]at e;obtain ⟨v,r,rfl,e2,_⟩:=e;replace hx:=Option.some.inj hx;subst hx;exact ⟨v,rfl,e2⟩
 | y :: xs,vs,i + 1,x,e,hx=>by simp only[VRs]at e;obtain ⟨v,r,rfl,_,e3⟩:=e;simp only[List.getElem?_cons_succ]at hx ⊢;exact VRs.get e3 hx
theorem VRs.take {h:Heap}:∀ {xs:List AV}{vs:List Value} (n:Nat),VRs h xs vs->VRs h (xs.take n) (vs.take n)
 | [],_,n,e=>by simp only[VRs]at e;subst e;simp[VRs]
 | x :: xs,vs,0,e=>by rfl
 | x :: xs,vs,n + 1,e=>by simp only[VRs]at e;refine ad e λv r V e2 e3=>?_;clear e;subst V;dsimp only[List.take_succ_cons,VRs];exact ⟨v,_,rfl,e2,VRs.take n e3⟩
theorem VRs.drop {h:Heap}:∀ {xs:List AV}{vs:List Value} (n:Nat),VRs h xs vs->VRs h (xs.drop n) (vs.drop n)
 | [],_,n,e=>by simp only[VRs]at e;subst e;simp[VRs]
 | x :: xs,vs,0,e=>by simpa using e
 | x :: xs,vs,n + 1,e=>by simp only[VRs]at e;refine ad e λv r V e2 e3=>?_;clear e;subst V;simp only[List.drop_succ_cons];exact VRs.drop n e3
noncomputable def LocR (h:Heap) (m:Loc) (mv:PySem.Str->Option Value):Prop:=(∀ x v,m x=some v->∃ u,mv x=some u/\VR h v u)/\∀ x,m x=none->mv x=none
noncomputable def attrNames:List PySem.Str:=["isjunk", "a", "b", "autojunk", "matching_blocks", "opcodes", "fullbcount", "b2j", "bjunk", "bpopular"]
noncomputable def IPairs:List DictEntry->List (Int × Value)->Prop
 | [],ps=>ps=[]
 | e :: es,ps=>∃ kv r,ps=kv :: r/\Value.isInt kv.1 e.key=true/\e.val=kv.2/\IPairs es r
noncomputable def IDict (h:Heap) (a:Addr) (ps:List (Int × Value)):Prop:=
 ∃ o es ep,h.get? a=some o/\o.ExactDict/\o.data = .dict es ep/\(∀ e ∈ es,∃ k,Value.isInt k e.key=true/\e.hash=hashInt k)/\IPairs es.toList ps/\(ps.map (·.1)).Nodup
noncomputable def ISet (h:Heap) (a:Addr) (f:Int->Bool) (n:Nat):Prop:=
 ∃ o es ep t,h.get? a=some o/\o.ExactSet/\o.data = .set es ep t/\(∀ e ∈ es.toList,(∃ k,Value.isInt k e.2=true/\e.1=hashInt k)/\e.2.scannable=true)/\(∀ k,f k=true ↔ ∃ e ∈ es.toList,Value.isInt k e.2=true)
  /\ es.size < scanBound/\t.fits es.size=true/\es.size=n
noncomputable def CellR (h:Heap):Option AV->Option Value->Prop
 | none,u=>u=none
 | some v,u=>∃ x,u=some x/\VR h v x
theorem CellR.mono {h h':Heap} (le:ImmLe h h'):∀ {v:Option AV}{u:Option Value},CellR h v u->CellR h' v u
 | none,_,e=>e
 | some _,_,⟨x,e,hv⟩=>⟨x,e,hv.mono le⟩
noncomputable def OR (h:Heap) (a:Addr):AO->Prop
 | .list xs=>∃ vs n,IsL h a vs n/\VRs h xs vs.toList
 | .ns m=>∃ mv,h.Ns a mv/\LocR h m mv
 | .atr m=>∃ mv,h.Ns1 a mv/\LocR h m mv/\Within mv attrNames
 | .obj o=>h.get? a=some o/\¬ Imm o
 | .cell v=>∃ o u,h.get? a=some o/\o.data = .cell u/\CellR h v u
 | .dict kvs=>∃ ps,IDict h a ps/\ps.map (·.1)=kvs.map (·.1)/\VRs h (kvs.map (·.2)) (ps.map (·.2))
 | .set f n=>ISet h a f n
noncomputable def GensLe (a b:Array GenState):Prop:=∀ (i:Nat) (g:GenState),a[i]?=some g->b[i]?=some g
theorem GensLe.refl (a:Array GenState):GensLe a a:=λ_ _ e=>e
theorem GensLe.trans {a b c:Array GenState} (x:GensLe a b) (y:GensLe b c):GensLe a c:=λi g e=>y i g (x i g e)
theorem GensLe.size {a b:Array GenState} (x:GensLe a b):a.size<=b.size:=by
 rcases Nat.lt_or_ge b.size a.size with h | h
 .have e:=x b.size a[b.size] (Array.getElem?_eq_getElem h);rw[Array.getElem?_eq_none (Nat.le_refl _)]at e;cases e
 .exact h
theorem GensLe.push (a:Array GenState) (g:GenState):GensLe a (a.push g):=λi x e=>by
 have hi:i < a.size:=by
  rcases Nat.lt_or_ge i a.size with h | h
  .exact h
  .rw [Array.getElem?_eq_none h]at e;cases e
 rw[Array.getElem?_push_lt hi];rw[Array.getElem?_eq_getElem hi]at e;exact e
structure Rel (B:Shared) (hp:Hp) (s:Shared):Prop where
 keep:∀ b o,B.heap.get? b=some o->s.heap.get? b=some o
 objs:∀ a o,hp a=some o->B.heap.objs.size<=a/\OR s.heap a o
 os:s.os=B.os
 bare:AllBare s.gens/\GensLe B.gens s.gens
 size:B.heap.objs.size<=s.heap.objs.size
theorem LocR.mono {h h':Heap} (le:ImmLe h h') {m:Loc}{mv:PySem.Str->Option Value} (x:LocR h m mv):LocR h' m mv:=⟨λy v e=>let ⟨u,a,b⟩:=x.1 y v e;⟨u,a,b.mono le⟩,x.2⟩
theorem OR.here {h h':Heap} (le:ImmLe h h') {a:Addr} (e:∀ o,h.get? a=some o->h'.get? a=some o) {o:AO} (x:OR h a o):OR h' a o:=by
 cases o with
 | list xs=>obtain ⟨vs,n,x,y⟩:=x;exact ⟨vs,n,e _ x,y.mono le⟩
 | ns m=>refine aa x λmv V y=>?_;refine aM V λo es ep ho r=>?_;clear V;exact ⟨mv,⟨o,es,ep,e _ ho,r⟩,y.mono le⟩
 | atr m=>refine aa x λmv V y=>?_;refine aM V λo es ep ho r=>?_;clear V;exact ⟨mv,⟨o,es,ep,e _ ho,r⟩,y.1.mono le,y.2⟩
 | obj o=>exact ⟨e _ x.1,x.2⟩
 | cell v=>refine ad x λo u ho hd hc=>?_;exact ⟨o,u,e _ ho,hd,hc.mono le⟩
 | dict kvs=>refine ae x λps V hk hv=>?_;refine aM V λo es ep ho r=>?_;clear V;exact ⟨ps,⟨o,es,ep,e _ ho,r⟩,hk,hv.mono le⟩
 | set f n=>refine aO x λo es ep t ho r=>?_;exact ⟨o,es,ep,t,e _ ho,r⟩
theorem OR.ex {h:Heap}{a:Addr}{o:AO} (x:OR h a o):∃ ob,h.get? a=some ob:=by
 cases o with
 | list xs=>exact ⟨_,x.choose_spec.choose_spec.1⟩
 | ns m=>obtain ⟨_,⟨o,_,_,ho,_⟩,_⟩:=x;exact ⟨o,ho⟩
 | atr m=>obtain ⟨_,⟨o,_,_,ho,_⟩,_⟩:=x;exact ⟨o,ho⟩
 | obj o=>exact ⟨_,x.1⟩
 | cell v=>obtain ⟨o,_,ho,_⟩:=x;exact ⟨o,ho⟩
 | dict kvs=>obtain ⟨_,⟨o,_,_,ho,_⟩,_⟩:=x;exact ⟨o,ho⟩
 | set f n=>obtain ⟨o,_,_,_,ho,_⟩:=x;exact ⟨o,ho⟩
theorem Rel.lt {B s:Shared}{hp:Hp} (r:Rel B hp s) {a:Addr}{o:AO} (e:hp a=some o):a < s.heap.objs.size:=let ⟨_,h⟩:=(r.objs a o e).2.ex;Heap.lt_size h
theorem Rel.sub {B s:Shared}{hp hp':Hp} (r:Rel B hp s) (le:∀ a o,hp' a=some o->hp a=some o):Rel B hp' s:=⟨r.keep,λa o e=>r.objs a o (le a o e),r.os,r.bare,r.size⟩
theorem Rel.toks {B s:Shared}{hp:Hp} (r:Rel B hp s) (t:Nat):Rel B hp { s with toks:=t }:=⟨r.keep,r.objs,r.os,r.bare,r.size⟩
theorem Rel.alloc {B s:Shared}{hp:Hp} (r:Rel B hp s) (ob:Obj) (o:AO) (ho:OR (s.heap.push ob) s.heap.objs.size o):Rel B (hp.set s.heap.objs.size o) { s with heap:=s.heap.push ob } where
 keep b o' e:=Heap.get?_push_of_some _ (r.keep b o' e)
 objs a o' e:=by
  by_cases h:a=s.heap.objs.size
  .subst h;rw[Hp.ss]at e;cases e;exact ⟨r.size,ho⟩
  .rw [Hp.sn _ _ h]at e;have x:=r.objs a o' e;exact ⟨x.1,x.2.here (ImmLe.keep λb o'' e=>Heap.get?_push_of_some _ e) λo'' e=>Heap.get?_push_of_some _ e⟩
 os:=r.os
 bare:=r.bare
 size:=Nat.le_trans r.size (by simp)
theorem Rel.push {B s:Shared}{hp:Hp} (r:Rel B hp s) (ob:Obj):Rel B hp { s with heap:=s.heap.push ob } where
 keep b o' e:=Heap.get?_push_of_some _ (r.keep b o' e)
 objs a o' e:=⟨(r.objs a o' e).1,(r.objs a o' e).2.here (ImmLe.keep λb o'' e=>Heap.get?_push_of_some _ e) λo'' e=>Heap.get?_push_of_some _ e⟩
 os:=r.os
 bare:=r.bare
 size:=Nat.le_trans r.size (by simp)
theorem Rel.fresh {B s:Shared}{hp:Hp} (r:Rel B hp s):hp s.heap.objs.size=none:=by
 cases h:hp s.heap.objs.size with
 | none=>rfl
 | some o=>exact absurd (r.lt h) (Nat.lt_irrefl _)
theorem Imm.no {h:Heap}{a:Addr}{o ob:Obj} (ho:h.get? a=some o) (e:h.get? a=some ob) (n:∀ xs k,o.data≠.seq xs k):¬ Imm ob:=λ⟨_,xs,k,d⟩=>by rw[ho]at e;cases e;exact n _ _ d
theorem OR.notImm {h:Heap}{a:Addr}{o:AO} (x:OR h a o) (ob:Obj) (e:h.get? a=some ob):¬ Imm ob:=by
 cases o with
 | list xs=>
  obtain ⟨_,_,x,_⟩:=x;rw[show h.get? a=_ from x]at e;cases e;intro i;rcases i with ⟨i | i,_⟩
  .exact absurd (Value.type.inj i) (by decide)
  .cases i
 | ns m=>obtain ⟨_,⟨o,_,_,ho,hd,_⟩,_⟩:=x;exact Imm.no ho e λ_ _ h=>by rw[hd]at h;cases h
 | atr m=>obtain ⟨_,⟨o,_,_,ho,hd,_⟩,_⟩:=x;exact Imm.no ho e λ_ _ h=>by rw[hd]at h;cases h
 | obj o=>rw[x.1]at e;cases e;exact x.2
 | cell v=>obtain ⟨o,_,ho,hd,_⟩:=x;exact Imm.no ho e λ_ _ h=>by rw[hd]at h;cases h
 | dict kvs=>obtain ⟨_,⟨o,_,_,ho,_,hd,_⟩,_⟩:=x;exact Imm.no ho e λ_ _ h=>by rw[hd]at h;cases h
 | set f n=>obtain ⟨o,_,_,_,ho,_,hd,_⟩:=x;exact Imm.no ho e λ_ _ h=>by rw[hd]at h;cases h
theorem Rel.turn {B s:Shared}{hp:Hp} (r:Rel B hp s) {a:Addr}{o:AO} (ha:hp a=some o) {h':Heap} (hs:Heap.SameBut a s.heap h') (o':AO) (ho:ImmLe s.heap h'->OR h' a o') (t:Nat) :
  Rel B (hp.set a o') { s with heap:=h',toks:=t }/\ImmLe s.heap h':=by
 have le:ImmLe s.heap h':=λb ob e i=>by
  by_cases h:b=a
  .subst h;exact absurd i ((r.objs b o ha).2.notImm ob e)
  .rw [hs.2 b h];exact e
 refine ⟨⟨λb ob e=>?_,λb ob e=>?_,r.os,r.bare,by show _<=h'.objs.size;rw[hs.1];exact r.size⟩,le⟩
 .have:b≠a:=by rintro rfl;exact absurd (Heap.lt_size e) (Nat.not_lt.mpr (r.objs b o ha).1)
  show h'.get? b=some ob;rw[hs.2 b this];exact r.keep b ob e
 .by_cases h:b=a
  .subst h;rw[Hp.ss]at e;cases e;exact ⟨(r.objs b o ha).1,ho le⟩
  .rw [Hp.sn _ _ h]at e;have x:=r.objs b ob e;exact ⟨x.1,x.2.here le λo'' e=>by show h'.get? b=some o'';rw[hs.2 b h];exact e⟩
section
variable {M:Model}{A:Around}{E:Value->Shared->Prop}{B:Shared}{env:Env}{m:Loc}{hp:Hp}
noncomputable def EV (M:Model) (A:Around) (E:Value->Shared->Prop) (B:Shared) (env:Env) (e:Expr) (m:Loc) (hp:Hp) (Q:AV->Hp->Prop):Prop:=
 ∀ s,Rel B (hp.set env.locals (.ns m)) s->wpAny M A (eval e env) (λv s'=>∃ av hp',Rel B (hp'.set env.locals (.ns m)) s'/\ImmLe s.heap s'.heap/\VR s'.heap av v/\Q av hp') E s
noncomputable def TST (M:Model) (A:Around) (E:Value->Shared->Prop) (B:Shared) (env:Env) (e:Expr) (m:Loc) (hp:Hp) (Q:Bool->Hp->Prop):Prop:=
 ∀ s,Rel B (hp.set env.locals (.ns m)) s->wpAny M A (isTrue e env (eval e env)) (λb s'=>∃ hp',Rel B (hp'.set env.locals (.ns m)) s'/\ImmLe s.heap s'.heap/\Q b hp') E s
inductive AF where
 | next | brk | cont
 | ret (v:AV)
abbrev QV:=AV->Hp->Prop
abbrev QX:=AF->Loc->Hp->Prop
abbrev ET:=Value->Shared->Prop
noncomputable def FR (h:Heap):AF->Flow->Prop
 | .next,f=>f = .next
 | .brk,f=>f = .brk
 | .cont,f=>f = .cont
 | .ret v,f=>∃ u,f = .ret u/\VR h v u
noncomputable def EX (M:Model) (A:Around) (E:ET) (B:Shared) (env:Env) (st:Stmt) (m:Loc) (hp:Hp) (Q:QX):Prop:=
 ∀ s,Rel B (hp.set env.locals (.ns m)) s->wpAny M A (exec st env) (λf s'=>∃ af m' hp',Rel B (hp'.set env.locals (.ns m')) s'/\ImmLe s.heap s'.heap/\FR s'.heap af f/\Q af m' hp') E s
noncomputable def EXs (M:Model) (A:Around) (E:ET) (B:Shared) (env:Env) (sts:List Stmt) (m:Loc) (hp:Hp) (Q:QX):Prop:=
 ∀ s,Rel B (hp.set env.locals (.ns m)) s->wpAny M A (execs sts env) (λf s'=>∃ af m' hp',Rel B (hp'.set env.locals (.ns m')) s'/\ImmLe s.heap s'.heap/\FR s'.heap af f/\Q af m' hp') E s
theorem mkV {B s s':Shared}{L:Addr}{m:Loc}{Q:QV}{v:Value}{av:AV}{hp':Hp} (r:Rel B (hp'.set L (.ns m)) s') (le:ImmLe s.heap s'.heap) (hv:VR s'.heap av v) (q:Q av hp'):∃ av hp',Rel B (hp'.set L (.ns m)) s'/\ImmLe s.heap s'.heap/\VR s'.heap av v/\Q av hp':=⟨av,hp',r,le,hv,q⟩
theorem mkT {B s s':Shared}{L:Addr}{m:Loc}{Q:Hp->Prop}{hp':Hp} (r:Rel B (hp'.set L (.ns m)) s') (le:ImmLe s.heap s'.heap) (q:Q hp'):∃ hp',Rel B (hp'.set L (.ns m)) s'/\ImmLe s.heap s'.heap/\Q hp':=⟨hp',r,le,q⟩
theorem mkA {B s s':Shared}{L:Addr}{Q:Loc->Hp->Prop}{m':Loc}{hp':Hp} (r:Rel B (hp'.set L (.ns m')) s') (le:ImmLe s.heap s'.heap) (q:Q m' hp'):∃ m' hp',Rel B (hp'.set L (.ns m')) s'/\ImmLe s.heap s'.heap/\Q m' hp':=⟨m',hp',r,le,q⟩
theorem mkX {B s s':Shared}{L:Addr}{Q:QX}{f:Flow}{af:AF}{m':Loc}{hp':Hp} (r:Rel B (hp'.set L (.ns m')) s') (le:ImmLe s.heap s'.heap) (hf:FR s'.heap af f) (q:Q af m' hp'):∃ af m' hp',Rel B (hp'.set L (.ns m')) s'/\ImmLe s.heap s'.heap/\FR s'.heap af f/\Q af m' hp':=⟨af,m',hp',r,le,hf,q⟩
theorem useV {M:Model}{A:Around}{X:Sem Value}{B s:Shared}{L:Addr}{m:Loc}{Q:QV}{E:ET}{W:ET} (h:wpAny M A X (λv s'=>∃ av hp',Rel B (hp'.set L (.ns m)) s'/\ImmLe s.heap s'.heap/\VR s'.heap av v/\Q av hp') E s) (k:∀ v s' av hp',Rel B (hp'.set L (.ns m)) s'->ImmLe s.heap s'.heap->VR s'.heap av v->Q av hp'->W v s'):wpAny M A X W E s:=
 wpAny_mono h (λv s' x=>by refine aq x λav hp' r le hv q=>?_;exact k v s' av hp' r le hv q) λ_ _ x=>x
theorem Zt2 {M:Model}{A:Around}{X:Sem Value}{B s:Shared}{L:Addr}{m:Loc}{Q:QV}{E:ET}{W:ET} (h:wpAny M A X (λv s'=>∃ av hp',Rel B (hp'.set L (.ns m)) s'/\ImmLe s.heap s'.heap/\VR s'.heap av v/\Q av hp') (λ_ _=>False) s) (k:∀ v s' av hp',Rel B (hp'.set L (.ns m)) s'->ImmLe s.heap s'.heap->VR s'.heap av v->Q av hp'->W v s'):wpAny M A X W E s:=
 wpAny_mono h (λv s' x=>by refine aq x λav hp' r le hv q=>?_;exact k v s' av hp' r le hv q) λ_ _ x=>x.elim
theorem Zcr {M:Model}{A:Around}{X:Sem (List Value)}{B s:Shared}{L:Addr}{m:Loc}{Q:List AV->Hp->Prop}{E:ET}{W:(List Value)->Shared->Prop} (h:wpAny M A X (λv s'=>∃ av hp',Rel B (hp'.set L (.ns m)) s'/\ImmLe s.heap s'.heap/\VRs s'.heap av v/\Q av hp') E s) (k:∀ v s' av hp',Rel B (hp'.set L (.ns m)) s'->ImmLe s.heap s'.heap->VRs s'.heap av v->Q av hp'->W v s'):wpAny M A X W E s:=
 wpAny_mono h (λv s' x=>by refine aq x λav hp' r le hv q=>?_;exact k v s' av hp' r le hv q) λ_ _ x=>x
theorem useT {M:Model}{A:Around}{X:Sem Bool}{B s:Shared}{L:Addr}{m:Loc}{Q:Bool->Hp->Prop}{E:ET}{W:Bool->Shared->Prop} (h:wpAny M A X (λv s'=>∃ hp',Rel B (hp'.set L (.ns m)) s'/\ImmLe s.heap s'.heap/\Q v hp') E s) (k:∀ v s' hp',Rel B (hp'.set L (.ns m)) s'->ImmLe s.heap s'.heap->Q v hp'->W v s'):wpAny M A X W E s:=
 wpAny_mono h (λv s' x=>by refine ae x λhp' r le q=>?_;exact k v s' hp' r le q) λ_ _ x=>x
theorem Zr3 {M:Model}{A:Around}{X:Sem Bool}{B s:Shared}{L:Addr}{m:Loc}{Q:Bool->Hp->Prop}{E:ET}{W:Bool->Shared->Prop} (h:wpAny M A X (λv s'=>∃ hp',Rel B (hp'.set L (.ns m)) s'/\ImmLe s.heap s'.heap/\Q v hp') (λ_ _=>False) s) (k:∀ v s' hp',Rel B (hp'.set L (.ns m)) s'->ImmLe s.heap s'.heap->Q v hp'->W v s'):wpAny M A X W E s:=
 wpAny_mono h (λv s' x=>by refine ae x λhp' r le q=>?_;exact k v s' hp' r le q) λ_ _ x=>x.elim
theorem useA {M:Model}{A:Around}{X:Sem Unit}{B s:Shared}{L:Addr}{Q:Loc->Hp->Prop}{E:ET}{W:Unit->Shared->Prop} (h:wpAny M A X (λv s'=>∃ m' hp',Rel B (hp'.set L (.ns m')) s'/\ImmLe s.heap s'.heap/\Q m' hp') E s) (k:∀ v s' m' hp',Rel B (hp'.set L (.ns m')) s'->ImmLe s.heap s'.heap->Q m' hp'->W v s'):wpAny M A X W E s:=
 wpAny_mono h (λv s' x=>by refine ad x λm' hp' r le q=>?_;exact k v s' m' hp' r le q) λ_ _ x=>x
theorem Zr4 {M:Model}{A:Around}{X:Sem Unit}{B s:Shared}{L:Addr}{Q:Loc->Hp->Prop}{E:ET}{W:Unit->Shared->Prop} (h:wpAny M A X (λv s'=>∃ m' hp',Rel B (hp'.set L (.ns m')) s'/\ImmLe s.heap s'.heap/\Q m' hp') (λ_ _=>False) s) (k:∀ v s' m' hp',Rel B (hp'.set L (.ns m')) s'->ImmLe s.heap s'.heap->Q m' hp'->W v s'):wpAny M A X W E s:=
 wpAny_mono h (λv s' x=>by refine ad x λm' hp' r le q=>?_;exact k v s' m' hp' r le q) λ_ _ x=>x.elim
theorem useX {M:Model}{A:Around}{X:Sem Flow}{B s:Shared}{L:Addr}{Q:QX}{E:ET}{W:Flow->Shared->Prop} (h:wpAny M A X (λv s'=>∃ af m' hp',Rel B (hp'.set L (.ns m')) s'/\ImmLe s.heap s'.heap/\FR s'.heap af v/\Q af m' hp') E s) (k:∀ v s' af m' hp',Rel B (hp'.set L (.ns m')) s'->ImmLe s.heap s'.heap->FR s'.heap af v->Q af m' hp'->W v s'):wpAny M A X W E s:=
 wpAny_mono h (λv s' x=>by refine aw x λaf m' hp' r le hf q=>?_;exact k v s' af m' hp' r le hf q) λ_ _ x=>x
theorem Zr2 {M:Model}{A:Around}{X:Sem Flow}{B s:Shared}{L:Addr}{Q:QX}{E:ET}{W:Flow->Shared->Prop} (h:wpAny M A X (λv s'=>∃ af m' hp',Rel B (hp'.set L (.ns m')) s'/\ImmLe s.heap s'.heap/\FR s'.heap af v/\Q af m' hp') (λ_ _=>False) s) (k:∀ v s' af m' hp',Rel B (hp'.set L (.ns m')) s'->ImmLe s.heap s'.heap->FR s'.heap af v->Q af m' hp'->W v s'):wpAny M A X W E s:=
 wpAny_mono h (λv s' x=>by refine aw x λaf m' hp' r le hf q=>?_;exact k v s' af m' hp' r le hf q) λ_ _ x=>x.elim
theorem Zaf {Q:QX} (h:Q .next m hp):EXs M A E B env [] m hp Q:=λs r=>wpAny_execs_nil ⟨.next,m,hp,r,.refl _,rfl,h⟩
noncomputable abbrev SEQ (M:Model) (A:Around) (E:ET) (B:Shared) (env:Env) (rest:List Stmt) (Q:QX):AF->Loc->Hp->Prop:=λf m' hp'=>match f with | .next=>EXs M A E B env rest m' hp' Q | f=>Q f m' hp'
theorem Zac {st:Stmt}{rest:List Stmt}{Q:QX}
  (h:EX M A E B env st m hp (SEQ M A E B env rest Q)):EXs M A E B env (st :: rest) m hp Q:=λs r=>by
 refine wpAny_execs_cons (wpAny_mono (h s r) (λf s' x=>?_) λ_ _ x=>x);refine hide λ_ Z=>?_;refine aw x λaf m' hp' r' le hf q=>?_;apply Z;clear Z;cases af with
 | next=>cases hf;exact useX (q s' r') λf s'' af m'' hp'' r'' le' hf q=>⟨af,m'',hp'',r'',le.trans le',hf,q⟩
 | brk=>cases hf;exact ⟨.brk,m',hp',r',le,rfl,q⟩
 | cont=>cases hf;exact ⟨.cont,m',hp',r',le,rfl,q⟩
 | ret v=>obtain ⟨u,rfl,hv⟩:=hf;exact ⟨.ret v,m',hp',r',le,⟨u,rfl,hv⟩,q⟩
theorem Zal {i:Int} {k pos}{Q:QV} (h:Q (.int i) hp):EV M A E B env (.Constant (.int i) k pos) m hp Q:=λs r=>
 wpAny_Constant_int ⟨.int i,hp,r.toks _,.refl _,by simp only[VR];exact ⟨_,rfl⟩,h⟩
theorem Zbw {x:PySem.Str} {k pos}{Q:QV} (h:Q (.str x) hp):EV M A E B env (.Constant (.str x) k pos) m hp Q:=λs r=>
 wpAny_Constant_str ⟨.str x,hp,r.toks _,.refl _,by simp only[VR];exact ⟨_,rfl⟩,h⟩
theorem Zcc {k pos}{Q:QV} (h:Q .none hp):EV M A E B env (.Constant .none k pos) m hp Q:=λs r=>
 wpAny_Constant_none ⟨.none,hp,r,.refl _,by rfl,h⟩
theorem Zpj {b:Bool} {k pos}{Q:QV} (h:Q (.bool b) hp):EV M A E B env (.Constant (.bool b) k pos) m hp Q:=λs r=>
 wpAny_Constant_bool ⟨.bool b,hp,r,.refl _,by rfl,h⟩
theorem Rel.loc {s:Shared} (r:Rel B (hp.set env.locals (.ns m)) s):∃ mv,s.heap.Ns env.locals mv/\LocR s.heap m mv:=(r.objs _ _ (Hp.ss ..)).2
theorem Zaa {x:PySem.Str} {pos}{v:AV}{Q:QV} (hv:m x=some v) (h:Q v hp) (hk:env.scope.kind = .function:=by rfl) (hl:env.kindOf x=some .local:=by rfl)
  (hd:(x == ("__debug__" : PySem.Str))=false:=by decide):EV M A E B env (.Name x pos) m hp Q:=λs r=>by
 refine hide λ_ Z=>?_;refine aa r.loc λmv hn hm=>?_;refine aa (hm.1 x v hv) λu hu hvu=>?_;apply Z;clear Z;exact wpAny_Name (wpAny_loadName_local hk hl hn hu ⟨v,hp,r,.refl _,hvu,h⟩) hd
theorem EV.use {e:Expr}{Q:QV} (h:EV M A E B env e m hp Q) {s:Shared} (r:Rel B (hp.set env.locals (.ns m)) s) {W:ET}
  (k:∀ v s' av hp',Rel B (hp'.set env.locals (.ns m)) s'->ImmLe s.heap s'.heap->VR s'.heap av v->Q av hp'->W v s'):wpAny M A (eval e env) W E s:=
 useV (h s r) λv s' av hp' r' le hv q=>k v s' av hp' r' le hv q
noncomputable def OP2 (M:Model) (A:Around) (E:ET) (B:Shared) (env:Env) (f:Value->Value->Sem Value) (m:Loc) (a b:AV) (hp:Hp) (Q:QV):Prop:=
 ∀ s u v,Rel B (hp.set env.locals (.ns m)) s->VR s.heap a u->VR s.heap b v->wpAny M A (f u v) (λW0 s'=>∃ av hp',Rel B (hp'.set env.locals (.ns m)) s'/\ImmLe s.heap s'.heap/\VR s'.heap av W0/\Q av hp') E s
noncomputable abbrev Zj6 (M:Model) (A:Around) (E:ET) (B:Shared) (env:Env) (m:Loc) (r:Expr) (op:Operator) (Q:QV):AV->Hp->Prop:=λa hp₁=>EV M A E B env r m hp₁ λb hp₂=>OP2 M A E B env (binaryOp op) m a b hp₂ Q
theorem Zag {l r:Expr}{op:Operator} {pos}{Q:QV}
  (h:EV M A E B env l m hp (Zj6 M A E B env m r op Q)):EV M A E B env (.BinOp l op r pos) m hp Q:=λs rel=>by
 refine wpAny_BinOp (h.use rel λu s₁ a hp₁ r₁ le₁ hu h₁=>h₁.use r₁ λv sV b hp₂ rV leV hv hV=>?_);exact useV (hV sV u v rV (hu.mono leV) hv) λW0 s' av hp' r' le hw q=>⟨av,hp',r',(le₁.trans leV).trans le,hw,q⟩
noncomputable abbrev Zf9 (M:Model) (A:Around) (E:ET) (B:Shared) (env:Env) (m:Loc) (r:Expr) (op:CmpOp) (Q:QV):AV->Hp->Prop:=λa hp₁=>EV M A E B env r m hp₁ λb hp₂=>OP2 M A E B env (compareOp op) m a b hp₂ Q
theorem Zii {l r:Expr}{op:CmpOp} {pos}{Q:QV}
  (h:EV M A E B env l m hp (Zf9 M A E B env m r op Q)) (hm:behindInMarks op r=false:=by with_unfolding_all rfl):EV M A E B env (.Compare l [op] [r] pos) m hp Q:=λs rel=>by
 refine wpAny_Compare1 (h.use rel λu s₁ a hp₁ r₁ le₁ hu h₁=>h₁.use r₁ λv sV b hp₂ rV leV hv hV=>?_) hm;exact useV (hV sV u v rV (hu.mono leV) hv) λW0 s' av hp' r' le hw q=>⟨av,hp',r',(le₁.trans leV).trans le,hw,q⟩
noncomputable def TRU (M:Model) (A:Around) (E:ET) (B:Shared) (env:Env) (m:Loc) (a:AV) (hp:Hp) (Q:Bool->Hp->Prop):Prop:=
 ∀ s u,Rel B (hp.set env.locals (.ns m)) s->VR s.heap a u->wpAny M A (truthy u) (λb s'=>∃ hp',Rel B (hp'.set env.locals (.ns m)) s'/\ImmLe s.heap s'.heap/\Q b hp') E s
noncomputable abbrev Ze5 (M:Model) (A:Around) (E:ET) (B:Shared) (env:Env) (m:Loc) (r:Expr) (op:CmpOp) (Q:Bool->Hp->Prop):AV->Hp->Prop:=λa hp₁=>EV M A E B env r m hp₁ λb hp₂=>OP2 M A E B env (compareOp op) m a b hp₂ λc hpX=>TRU M A E B env m c hpX Q
theorem Zad {l r:Expr}{op:CmpOp} {pos}{Q:Bool->Hp->Prop}
  (h:EV M A E B env l m hp (Ze5 M A E B env m r op Q)) (hm:behindInMarks op r=false:=by with_unfolding_all rfl) :
  TST M A E B env (.Compare l [op] [r] pos) m hp Q:=λs rel=>by
 refine wpAny_isTrue_Compare1 (h.use rel λu s₁ a hp₁ r₁ le₁ hu h₁=>h₁.use r₁ λv sV b hp₂ rV leV hv hV=>?_) hm;refine useV (hV sV u v rV (hu.mono leV) hv) λW0 s' av hp' r' le hw q=>?_;exact useT (q s' W0 r' hw) λb s'' hp'' r'' le' q=>⟨hp'',r'',((le₁.trans leV).trans le).trans le',q⟩
theorem Zaj {b:Bool}{Q:Bool->Hp->Prop} (h:Q b hp):TRU M A E B env m (.bool b) hp Q:=λs u r hu=>by simp only[VR]at hu;subst hu;exact wpAny_truthy_bool ⟨hp,r,.refl _,h⟩
theorem Za5 {test:Expr}{body orelse:List Stmt} {pos}{Q:QX}
  (h:TST M A E B env test m hp λb hp'=>if b then EXs M A E B env body m hp' Q else EXs M A E B env orelse m hp' Q):EX M A E B env (.If test body orelse pos) m hp Q:=λs r=>by
 refine wpAny_If (useT (h s r) λb s' hp' r' le q=>?_);cases b
 .exact useX (q s' r') λf s'' af m'' hp'' r'' le' hf q=>⟨af,m'',hp'',r'',le.trans le',hf,q⟩
 .exact useX (q s' r') λf s'' af m'' hp'' r'' le' hf q=>⟨af,m'',hp'',r'',le.trans le',hf,q⟩
noncomputable def upd (m:Loc) (x:PySem.Str) (v:AV):Loc:=λy=>if y=x then some v else m y
theorem LocR.upd {h:Heap}{mv:PySem.Str->Option Value} (x:LocR h m mv) {y:PySem.Str}{v:AV}{u:Value} (hv:VR h v u):LocR h (Mine.upd m y v) (λz=>if z=y then some u else mv z):=⟨λz W0 e=>by
 by_cases hz:z=y
 .simp only [Mine.upd,hz,if_true,Option.some.injEq]at e ⊢;subst e;exact ⟨u,rfl,hv⟩
 .simp only [Mine.upd,hz,if_false]at e ⊢;exact x.1 z W0 e,λz e=>by
 by_cases hz:z=y
 .simp [Mine.upd,hz]at e
 .simp only [Mine.upd,hz,if_false]at e ⊢;exact x.2 z e⟩
theorem Zb6 {x:PySem.Str}{v:AV}{u:Value}{s:Shared}{W:Unit->Shared->Prop} (r:Rel B (hp.set env.locals (.ns m)) s) (hv:VR s.heap v u)
  (k:∀ s',Rel B (hp.set env.locals (.ns (upd m x v))) s'->ImmLe s.heap s'.heap->W () s') (hl:env.kindOf x=some .local:=by rfl)
  (hp':(env.scope.kind == .class || (env.scope.kind == .module && env.locals != env.globals))=false:=by rfl):wpAny M A (storeName env x u) W E s:=by
 refine aa r.loc λmv hn hm=>?_;refine wpAny_storeName_local hl hn (λh' hn' hs=>?_) hp';have t:=r.turn (Hp.ss ..) hs (.ns (upd m x v)) (λle=>⟨_,hn',LocR.upd (hm.mono le) (hv.mono le)⟩) (s.toks + 1);rw[Hp.set_set]at t;exact k _ t.1 t.2
theorem Zan {x:PySem.Str}{value:Expr} {pos pos'}{Q:QX} (h:EV M A E B env value m hp λv hp'=>Q .next (upd m x v) hp')
  (hl:env.kindOf x=some .local:=by rfl) (hs:swapsWith value (some (.Name x pos')) pos.line env=pure false:=by rfl)
  (hk:(env.scope.kind == .class || (env.scope.kind == .module && env.locals != env.globals))=false:=by rfl):EX M A E B env (.Assign [.Name x pos'] value pos) m hp Q:=λs r=>
 wpAny_Assign_Name (h.use r λu s₁ v hp₁ r₁ le₁ hu q=>Zb6 r₁ hu (λs' r' le=>⟨.next,_,hp₁,r',le₁.trans le,rfl,q⟩) hl hk) hs
theorem Zeb {x:PySem.Str}{op:Operator}{value:Expr} {pos pos'}{v:AV}{Q:QX} (hv:m x=some v)
  (h:EV M A E B env value m hp λW0 hp'=>OP2 M A E B env (inplaceOp op) m v W0 hp' λr hp''=>Q .next (upd m x r) hp'')
  (hl:env.kindOf x=some .local:=by rfl) (hf:env.scope.kind = .function:=by rfl)
  (hk:(env.scope.kind == .class || (env.scope.kind == .module && env.locals != env.globals))=false:=by rfl):EX M A E B env (.AugAssign (.Name x pos') op value pos) m hp Q:=λs r=>by
 refine hide λ_ Z=>?_;refine aa r.loc λmv hn hm=>?_;refine aa (hm.1 x v hv) λu hu hvu=>?_;apply Z;clear Z;refine wpAny_AugAssign_Name (wpAny_loadName_local hf hl hn hu (h.use r λW0 s₁ b hp₁ r₁ le₁ hw h₁=>?_));refine useV (h₁ s₁ u W0 r₁ (hvu.mono le₁) hw) λz sV av hp₂ rV leV hz q=>?_;exact Zb6 rV hz (λs' r' le=>⟨.next,_,hp₂,r',(le₁.trans leV).trans le,rfl,q⟩) hl hk
noncomputable abbrev Zib (m:Loc) (Q:QX):AV->Hp->Prop:=λv hp'=>Q (.ret v) m hp'
theorem Zbo {e:Expr} {pos}{Q:QX} (h:EV M A E B env e m hp (Zib m Q)):EX M A E B env (.Return (some e) pos) m hp Q:=λs r=>
 wpAny_Return_some (h.use r λu s₁ v hp₁ r₁ le₁ hu q=>⟨.ret v,m,hp₁,r₁,le₁,⟨u,rfl,hu⟩,q⟩)
theorem Zpe {pos}{Q:QX} (h:Q .brk m hp):EX M A E B env (.Break pos) m hp Q:=λs r=>wpAny_Break ⟨.brk,m,hp,r,.refl _,rfl,h⟩
theorem Zih {pos}{Q:QX} (h:Q .cont m hp):EX M A E B env (.Continue pos) m hp Q:=λs r=>wpAny_Continue ⟨.cont,m,hp,r,.refl _,rfl,h⟩
end
variable {A:Around}{E:ET}{B:Shared}{env:Env}{m:Loc}{hp:Hp}
section
theorem VR_int {h:Heap}{i:Int}{t:Tok}:VR h (.int i) (.int i t):=by simp only[VR];exact ⟨t,rfl⟩
theorem VR_bool {h:Heap}{b:Bool}:VR h (.bool b) (.bool b):=by rfl
theorem VR_none {h:Heap}:VR h .none .none:=by rfl
theorem VR_ref {h:Heap}{a:Addr}:VR h (.ref a) (.ref a):=by rfl
theorem Zav {a b:Int}{Q:QV} (h:Q (.int (a + b)) hp):OP2 (model PW W0) A E B env (binaryOp .Add) m (.int a) (.int b) hp Q:=λs u v r hu hv=>by simp only[VR]at hu hv;obtain ⟨t,rfl⟩:=hu;obtain ⟨t',rfl⟩:=hv;exact PyProof.Rows.add_int ⟨_,hp,r.toks _,.refl _,VR_int,h⟩
theorem Zbe {a b:Int}{Q:QV} (h:Q (.int (a - b)) hp):OP2 (model PW W0) A E B env (binaryOp .Sub) m (.int a) (.int b) hp Q:=λs u v r hu hv=>by simp only[VR]at hu hv;obtain ⟨t,rfl⟩:=hu;obtain ⟨t',rfl⟩:=hv;exact PyProof.Rows.sub_int ⟨_,hp,r.toks _,.refl _,VR_int,h⟩
theorem Zfj {a b:Int}{Q:QV} (hb:b≠0) (h:Q (.int (a.fmod b)) hp):OP2 (model PW W0) A E B env (binaryOp .Mod) m (.int a) (.int b) hp Q:=λs u v r hu hv=>by simp only[VR]at hu hv;obtain ⟨t,rfl⟩:=hu;obtain ⟨t',rfl⟩:=hv;exact PyProof.Rows.mod_int hb ⟨_,hp,r.toks _,.refl _,VR_int,h⟩
theorem Zms {a b:Int}{Q:QV} (h:Q (.int (a + b)) hp):OP2 (model PW W0) A E B env (inplaceOp .Add) m (.int a) (.int b) hp Q:=λs u v r hu hv=>by simp only[VR]at hu hv;obtain ⟨t,rfl⟩:=hu;obtain ⟨t',rfl⟩:=hv;exact PyProof.Rows.iadd_int ⟨_,hp,r.toks _,.refl _,VR_int,h⟩
theorem Zdo {a b:Int}{Q:QV} (h:Q (.bool (decide (a < b))) hp):OP2 (model PW W0) A E B env (compareOp .Lt) m (.int a) (.int b) hp Q:=λs u v r hu hv=>by simp only[VR]at hu hv;obtain ⟨t,rfl⟩:=hu;obtain ⟨t',rfl⟩:=hv;exact PyProof.Rows.lt_int ⟨_,hp,r,.refl _,VR_bool,h⟩
theorem Zf7 {a b:Int}{Q:QV} (h:Q (.bool (decide (b < a))) hp):OP2 (model PW W0) A E B env (compareOp .Gt) m (.int a) (.int b) hp Q:=λs u v r hu hv=>by simp only[VR]at hu hv;obtain ⟨t,rfl⟩:=hu;obtain ⟨t',rfl⟩:=hv;exact PyProof.Rows.gt_int ⟨_,hp,r,.refl _,VR_bool,h⟩
theorem Ztm {a b:Int}{Q:QV} (h:Q (.bool (decide (a>=b))) hp):OP2 (model PW W0) A E B env (compareOp .GtE) m (.int a) (.int b) hp Q:=λs u v r hu hv=>by simp only[VR]at hu hv;obtain ⟨t,rfl⟩:=hu;obtain ⟨t',rfl⟩:=hv;exact PyProof.Rows.ge_int ⟨_,hp,r,.refl _,VR_bool,h⟩
theorem Zd2 {a b:Int}{Q:QV} (h:Q (.bool (a == b)) hp):OP2 (model PW W0) A E B env (compareOp .Eq) m (.int a) (.int b) hp Q:=λs u v r hu hv=>by simp only[VR]at hu hv;obtain ⟨t,rfl⟩:=hu;obtain ⟨t',rfl⟩:=hv;exact PyProof.Rows.eq_int ⟨_,hp,r,.refl _,VR_bool,h⟩
theorem Zrk {a b:Int}{Q:QV} (h:Q (.bool (a != b)) hp):OP2 (model PW W0) A E B env (compareOp .NotEq) m (.int a) (.int b) hp Q:=λs u v r hu hv=>by simp only[VR]at hu hv;obtain ⟨t,rfl⟩:=hu;obtain ⟨t',rfl⟩:=hv;exact PyProof.Rows.ne_int ⟨_,hp,r,.refl _,VR_bool,h⟩
theorem Zfk {a b:PySem.Str}{Q:QV} (h:Q (.bool (a == b)) hp):OP2 (model PW W0) A E B env (compareOp .Eq) m (.str a) (.str b) hp Q:=λs u v r hu hv=>by simp only[VR]at hu hv;obtain ⟨t,rfl⟩:=hu;obtain ⟨t',rfl⟩:=hv;exact PyProof.Rows.eq_str ⟨_,hp,r,.refl _,VR_bool,h⟩
noncomputable def AV.isNone:AV->Bool
 | .none=>true
 | _=>false
theorem VR.isNone {h:Heap}:∀ {a:AV}{u:Value},VR h a u->(u == Value.none)=a.isNone
 | .none,_,e=>by simp only[VR]at e;subst e;rfl
 | .bool _,_,e=>by simp only[VR]at e;subst e;rfl
 | .int _,_,e=>by simp only[VR]at e;obtain ⟨_,rfl⟩:=e;rfl
 | .str _,_,e=>by simp only[VR]at e;obtain ⟨_,rfl⟩:=e;rfl
 | .flt _,_,e=>by simp only[VR]at e;obtain ⟨_,rfl⟩:=e;rfl
 | .ref _,_,e=>by simp only[VR]at e;subst e;rfl
 | .ty _,_,e=>by simp only[VR]at e;subst e;rfl
 | .bi _,_,e=>by simp only[VR]at e;subst e;rfl
 | .tup _,_,e=>by simp only[VR]at e;obtain ⟨_,_,rfl,_⟩:=e;rfl
 | .mat _,_,e=>by simp only[VR]at e;obtain ⟨_,_,rfl,_⟩:=e;rfl
theorem Zdp {a:AV}{Q:QV} (h:Q (.bool a.isNone) hp):OP2 (model PW W0) A E B env (compareOp .Is) m a .none hp Q:=λs u v r hu hv=>by simp only[VR]at hv;subst hv;exact is_none ⟨_,hp,r,.refl _,by rw[hu.isNone];exact VR_bool,h⟩
theorem Zcz {a:AV}{Q:QV} (h:Q (.bool (!a.isNone)) hp):OP2 (model PW W0) A E B env (compareOp .IsNot) m a .none hp Q:=λs u v r hu hv=>by simp only[VR]at hv;subst hv;exact isNot_none ⟨_,hp,r,.refl _,by rw[hu.isNone];exact VR_bool,h⟩
noncomputable abbrev Zia (PW:Program) (W0:World) (A:Around) (E:ET) (B:Shared) (env:Env) (m:Loc) (Q:Bool->Hp->Prop):AV->Hp->Prop:=λv hp'=>TRU (model PW W0) A E B env m v hp' Q
theorem Za2 {e:Expr}{Q:Bool->Hp->Prop} (h:EV (model PW W0) A E B env e m hp (Zia PW W0 A E B env m Q))
  (he:isTrue e env (eval e env)=(do let v <-eval e env;standAt e.pos;holding [v] (truthy v)):=by rfl):TST (model PW W0) A E B env e m hp Q:=λs r=>by
 refine wpAny_isTrue_value (h.use r λu s₁ v hp₁ r₁ le₁ hu q=>?_) he;exact useT (q s₁ u r₁ hu) λb s'' hp'' r'' le' q=>mkT r'' (le₁.trans le') q
theorem Zf3 {x:Expr} {pos}{Q:Bool->Hp->Prop} (h:TST (model PW W0) A E B env x m hp (λb hp'=>Q (!b) hp')):TST (model PW W0) A E B env (.UnaryOp .Not x pos) m hp Q:=λs r=>
 wpAny_isTrue_Not (h s r)
noncomputable def ALLT (M:Model) (A:Around) (E:ET) (B:Shared) (env:Env) (op:BoolOp) (es:List Expr) (m:Loc) (hp:Hp) (Q:Bool->Hp->Prop):Prop:=
 ∀ s,Rel B (hp.set env.locals (.ns m)) s->wpAny M A (allTrue op es env) (λb s'=>∃ hp',Rel B (hp'.set env.locals (.ns m)) s'/\ImmLe s.heap s'.heap/\Q b hp') E s
theorem Zaz {op:BoolOp}{es:List Expr} {pos}{Q:Bool->Hp->Prop} (h:ALLT (model PW W0) A E B env op es m hp Q):TST (model PW W0) A E B env (.BoolOp op es pos) m hp Q:=λs r=>wpAny_isTrue_BoolOp (h s r)
theorem Zat {Q:Bool->Hp->Prop} (h:Q true hp):ALLT (model PW W0) A E B env .And [] m hp Q:=λs r=>wpAny_allTrue_And_nil ⟨hp,r,.refl _,h⟩
theorem Zah {x:Expr}{rest:List Expr}{Q:Bool->Hp->Prop} (h:TST (model PW W0) A E B env x m hp λb hp'=>if b then ALLT (model PW W0) A E B env .And rest m hp' Q else Q false hp') :
  ALLT (model PW W0) A E B env .And (x :: rest) m hp Q:=λs r=>by
 refine wpAny_allTrue_And_cons (useT (h s r) λb s' hp' r' le q=>?_);cases b
 .exact mkT r' le q
 .exact useT (q s' r') λb s'' hp'' r'' le' q=>mkT r'' (le.trans le') q
theorem Zf5 {a:Int}{Q:Bool->Hp->Prop} (h:Q (a != 0) hp):TRU (model PW W0) A E B env m (.int a) hp Q:=λs u r hu=>by simp only[VR]at hu;obtain ⟨t,rfl⟩:=hu;exact PySem.P.truthy_int ⟨hp,r,.refl _,h⟩
theorem Rel.at {s:Shared} (r:Rel B (hp.set env.locals (.ns m)) s) {a:Addr}{o:AO} (ha:hp a=some o) (hL:a≠env.locals):OR s.heap a o:=(r.objs a o (Hp.snt hL ha)).2
theorem Zf4 {a:Addr}{xs:List AV}{Q:Bool->Hp->Prop} (ha:hp a=some (.list xs)) (hL:a≠env.locals) (hsz:xs.length<=sizeLine) (h:Q (!xs.isEmpty) hp):TRU (model PW W0) A E B env m (.ref a) hp Q:=λs u r hu=>by
 simp only[VR]at hu;subst hu;refine am (r.at ha hL) λvs n hl hv=>?_;have hlen:=hv.length;refine wpAny_truthy_list hl.isList (by refine Array.length_toList▸?_;have:=sizeLine_eq;lia) ⟨hp,r.toks _,.refl _,?_⟩;have:vs.isEmpty=xs.isEmpty:=by
  refine Array.isEmpty_toList▸?_;cases hx:xs with
  | nil=>rw[hx]at hlen;simp at hlen;rw[List.isEmpty_iff.mpr];rfl;exact List.length_eq_zero_iff.mp (by simpa using hlen)
  | cons y ys=>rw[hx]at hlen;cases hv':vs.toList with
   | nil=>rw[hv']at hlen;nomatch hlen
   | cons z zs=>rfl
 rw[this];exact h
end
section
noncomputable def EVS (M:Model) (A:Around) (E:ET) (B:Shared) (env:Env) (es:List Expr) (m:Loc) (hp:Hp) (Q:List AV->Hp->Prop):Prop:=
 ∀ (pos:Pos) s,Rel B (hp.set env.locals (.ns m)) s->wpAny M A (spliced (backTo pos (starEach es env))) (λvs s'=>∃ avs hp',Rel B (hp'.set env.locals (.ns m)) s'/\ImmLe s.heap s'.heap/\VRs s'.heap avs vs/\Q avs hp') E s
theorem Zae {Q:List AV->Hp->Prop} (h:Q [] hp):EVS (model PW W0) A E B env [] m hp Q:=λ_ s r=>wpAny_items_nil ⟨[],hp,r,.refl _,by rfl,h⟩
noncomputable abbrev Zj7 (PW:Program) (W0:World) (A:Around) (E:ET) (B:Shared) (env:Env) (m:Loc) (rest:List Expr) (Q:List AV->Hp->Prop):AV->Hp->Prop:=λv hp'=>EVS (model PW W0) A E B env rest m hp' λvs hp''=>Q (v :: vs) hp''
theorem Zab {e:Expr}{rest:List Expr}{Q:List AV->Hp->Prop} (h:EV (model PW W0) A E B env e m hp (Zj7 PW W0 A E B env m rest Q))
  (he:starEach (e :: rest) env=(false,eval e env) :: starEach rest env:=by rfl):EVS (model PW W0) A E B env (e :: rest) m hp Q:=λpos s r=>by
 refine wpAny_items_cons (h.use r λu s₁ v hp₁ r₁ le₁ hu q=>?_) he;refine Zcr (q pos s₁ r₁) λvs sV avs hp₂ rV leV hv q=>?_;exact ⟨v :: avs,hp₂,rV,le₁.trans leV,by simp only[VRs];exact ⟨u,vs,rfl,hu.mono leV,hv⟩,q⟩
theorem Rel.newAt {s:Shared} (r:Rel B (hp.set env.locals (.ns m)) s) (ob:Obj) (o:AO) (ho:OR (s.heap.push ob) s.heap.objs.size o) :
  Rel B ((hp.set s.heap.objs.size o).set env.locals (.ns m)) { s with heap:=s.heap.push ob }/\hp s.heap.objs.size=none/\s.heap.objs.size≠env.locals/\ImmLe s.heap (s.heap.push ob):=by
 have f:=r.fresh;have hne:s.heap.objs.size≠env.locals:=λe=>by rw[e,Hp.ss]at f;cases f
 refine ⟨?_,Hp.snr hne f,hne,ImmLe.keep λb o'' e=>Heap.get?_push_of_some _ e⟩;have:=r.alloc ob o ho;rw[Hp.sc _ _ _ (Ne.symm hne)]at this;exact this
noncomputable abbrev Zj0 (Q:QV):List AV->Hp->Prop:=λvs hp'=>vs.length<=sizeLine/\Q (.tup vs) hp'
theorem Zar {es:List Expr} {k pos}{Q:QV} (h:EVS (model PW W0) A E B env es m hp (Zj0 Q)):EV (model PW W0) A E B env (.Tuple es k pos) m hp Q:=λs r=>by refine wpAny_Tuple (Zcr (h pos s r) λvs s₁ avs hp₁ r₁ le₁ hv yq=>?_);obtain ⟨hlen,q⟩:=yq;refine ⟨by rw[hv.length];exact hlen,?_⟩;have le:ImmLe s₁.heap (s₁.heap.push { cls:=.type "tuple",data:=.seq vs.toArray }):=ImmLe.keep λb o'' e=>Heap.get?_push_of_some _ e;exact mkV (av:=.tup avs) (r₁.push _) (le₁.trans le) (by simp only[VR];exact ⟨_,vs.toArray,rfl,⟨_,Heap.get?_push_size _ rfl,rfl,_,rfl⟩,by simpa using hv.mono le⟩) q
noncomputable abbrev Zmx (env:Env) (Q:QV):List AV->Hp->Prop:=λvs hp'=>vs.length<=sizeLine/\∀ a,hp' a=none->a≠env.locals->Q (.ref a) (hp'.set a (.list vs))
theorem Za4 {es:List Expr} {pos}{Q:QV} (h:EVS (model PW W0) A E B env es m hp (Zmx env Q)) :
  EV (model PW W0) A E B env (.List es pos) m hp Q:=λs r=>by
 refine wpAny_List (Zcr (h pos s r) λvs s₁ avs hp₁ r₁ le₁ hv yq=>?_);obtain ⟨hlen,q⟩:=yq;refine ⟨by rw[hv.length];exact hlen,?_⟩
 have n:=r₁.newAt { cls:=.type "list",data:=.seq vs.toArray } (.list avs) ⟨vs.toArray,0,IsL.new _ _,by
  have le:ImmLe s₁.heap (s₁.heap.push { cls:=.type "list",data:=.seq vs.toArray }):=ImmLe.keep λb o'' e=>Heap.get?_push_of_some _ e
  simpa using hv.mono le⟩
 exact mkV (av:=.ref _) n.1 (le₁.trans n.2.2.2) VR_ref (q _ n.2.1 n.2.2.1)
noncomputable def SUB (M:Model) (A:Around) (E:ET) (B:Shared) (env:Env) (value slice:Expr) (m:Loc) (o i:AV) (hp:Hp) (Q:QV):Prop:=
 ∀ s u v,Rel B (hp.set env.locals (.ns m)) s->VR s.heap o u->VR s.heap i v->wpAny M A (subscriptTail value slice u v) (λW0 s'=>∃ av hp',Rel B (hp'.set env.locals (.ns m)) s'/\ImmLe s.heap s'.heap/\VR s'.heap av W0/\Q av hp') E s
noncomputable abbrev Ze6 (PW:Program) (W0:World) (A:Around) (E:ET) (B:Shared) (env:Env) (m:Loc) (value:Expr) (slice:Expr) (Q:QV):AV->Hp->Prop:=λo hp₁=>EV (model PW W0) A E B env slice m hp₁ λi hp₂=>SUB (model PW W0) A E B env value slice m o i hp₂ Q
theorem Zam {value slice:Expr} {pos}{Q:QV}
  (h:EV (model PW W0) A E B env value m hp (Ze6 PW W0 A E B env m value slice Q)):EV (model PW W0) A E B env (.Subscript value slice pos) m hp Q:=λs rel=>by
 refine Subscript_ (h.use rel λu s₁ a hp₁ r₁ le₁ hu h₁=>h₁.use r₁ λv sV b hp₂ rV leV hv hV=>?_);exact useV (hV sV u v rV (hu.mono leV) hv) λW0 s' av hp' r' le hw q=>mkV r' ((le₁.trans leV).trans le) hw q
theorem Zh8 {value slice:Expr}{xs:List AV}{k:Int}{j:Nat}{x:AV}{Q:QV} (hlo : -(2 ^ 63)<=k) (hhi:k < 2 ^ 63) (hj:seqIndex? k xs.length=some j) (hx:xs[j]?=some x) (h:Q x hp)
  (hs:∀ t u,subscripted slice false (.ref t) (.int k u)=operate [.ref t,.int k u] (getItem (.ref t) (.int k u)):=by intro _ _;with_unfolding_all rfl) :
  SUB (model PW W0) A E B env value slice m (.tup xs) (.int k) hp Q:=λs u v r hu hv=>by
 refine hide λ_ Z=>?_;simp only[VR]at hu hv;obtain ⟨t,rfl⟩:=hv;refine ad hu λa vs V ht hvs=>?_;clear hu;subst V;refine aa (hvs.get hx) λy hy hxy=>?_;apply Z;clear Z;exact item_tupleT (l:=vs.toList) (by simpa using ht) hlo hhi (by rw[hvs.length];exact hj) hy ⟨x,hp,r,.refl _,hxy,h⟩ (hs _ _)
noncomputable def Lst (B:Shared) (hp:Hp) (L a:Addr) (xs:List AV):Prop:=(hp a=some (.list xs)/\a≠L)\/∃ vs,B.heap.IsList a vs/\VRs B.heap xs vs.toList
theorem Lst.own {B:Shared}{hp:Hp}{L a:Addr}{xs:List AV} (h:hp a=some (.list xs)) (hL:a≠L):Lst B hp L a xs:=.inl ⟨h,hL⟩
theorem Rel.lst {s:Shared} (r:Rel B (hp.set env.locals (.ns m)) s) {a:Addr}{xs:List AV} (h:Lst B hp env.locals a xs):∃ vs,s.heap.IsList a vs/\VRs s.heap xs vs.toList:=by
 rcases h with ⟨ha,hL⟩ | ⟨vs,hl,hv⟩
 .refine am (r.at ha hL) λvs n hl hv=>?_;exact ⟨vs,hl.isList,hv⟩
 .refine aa hl λo ho rest=>?_;exact ⟨vs,⟨o,r.keep _ _ ho,rest⟩,hv.mono (ImmLe.keep r.keep)⟩
theorem Zay {value slice:Expr}{a:Addr}{xs:List AV}{k:Int}{x:AV}{Q:QV} (hl:Lst B hp env.locals a xs) (h0 : 0<=k) (hhi:k < 2 ^ 63) (hx:xs[k.toNat]?=some x) (h:Q x hp)
  (hs:∀ u,subscripted slice false (.ref a) (.int k u)=operate [.ref a,.int k u] (getItem (.ref a) (.int k u)):=by intro _;with_unfolding_all rfl) :
  SUB (model PW W0) A E B env value slice m (.ref a) (.int k) hp Q:=λs u v r hu hv=>by
 simp only[VR]at hu hv;obtain ⟨t,rfl⟩:=hv;subst hu;refine aa (r.lst hl) λvs hl hvs=>?_;refine aa (hvs.get hx) λy hy hxy=>?_;exact tail_any hl.typeIs slot_list_getitem.lookup (wpAny_getItem_list hl h0 hhi (by simpa using hy) ⟨x,hp,r,.refl _,hxy,h⟩) (hs _)
theorem Zca {value slice:Expr}{a:Addr}{xs:List AV}{k:Int}{x:AV}{Q:QV} (hl:Lst B hp env.locals a xs) (h0:k < 0) (hlo : -(2 ^ 63)<=k) (h1 : -(xs.length:Int)<=k) (hx:xs[(k + xs.length).toNat]?=some x) (h:Q x hp)
  (hs:∀ u,subscripted slice false (.ref a) (.int k u)=operate [.ref a,.int k u] (getItem (.ref a) (.int k u)):=by intro _;with_unfolding_all rfl) :
  SUB (model PW W0) A E B env value slice m (.ref a) (.int k) hp Q:=λs u v r hu hv=>by
 refine hide λ_ Z=>?_;simp only[VR]at hu hv;obtain ⟨t,rfl⟩:=hv;subst hu;refine aa (r.lst hl) λvs hl hvs=>?_;refine aa (hvs.get hx) λy hy hxy=>?_;apply Z;clear Z;have hlen:=hvs.length;have hsz:(vs.size:Int)=xs.length:=by exact Array.length_toList▸hlen▸rfl
 refine tail_any hl.typeIs slot_list_getitem.lookup (wpAny_getItem_list_neg hl h0 ?_ hlo ?_ ⟨x,hp,r,.refl _,hxy,h⟩) (hs _)
 .rw [hsz];exact h1
 .rw [hsz];simpa using hy
noncomputable def optE (M:Model) (A:Around) (E:ET) (B:Shared) (env:Env) (e:Option Expr) (m:Loc) (hp:Hp) (Q:QV):Prop:=match e with | some e=>EV M A E B env e m hp Q | none=>Q .none hp
theorem optE.use {e:Option Expr}{Q:QV} (h:optE (model PW W0) A E B env e m hp Q) {s:Shared} (r:Rel B (hp.set env.locals (.ns m)) s) {W:ET}
  (k:∀ v s' av hp',Rel B (hp'.set env.locals (.ns m)) s'->ImmLe s.heap s'.heap->VR s'.heap av v->Q av hp'->W v s'):wpAny (model PW W0) A (evalPart e env) W E s:=by
 cases e with
 | none=>exact wP (k _ _ .none hp r (.refl _) VR_none h)
 | some e=>exact EV.use h r k
noncomputable def Zgo:AV->Option (Option Int)
 | .none=>some none
 | .int i=>some (some i)
 | _=>none
theorem VR.part {h:Heap}{a:AV}{v:Value}{k:Option Int} (hv:VR h a v) (e:Zgo a=some k):IsPart v k:=by
 cases a with
 | none=>cases (show some none=some k from e);simp only[VR]at hv;subst hv;exact .none
 | int i=>cases (show some (some i)=some k from e);simp only[VR]at hv;obtain ⟨t,rfl⟩:=hv;exact .int ..
 | _=>cases (show (none:Option (Option Int))=some k from e)
noncomputable def pick {α:Type} (xs:List α) (lo hi:Option Int):List α:=(xs.drop (lo.elim 0 (clipAt xs.length))).take (hi.elim xs.length (clipAt xs.length) - lo.elim 0 (clipAt xs.length))
end
open PySem PySem.W PyProof.Rows PySem.Calls
structure Gnd (K:Frag) (B:Shared):Prop where
 X:K.In B.heap
 top:∃ mg mb,B.heap.Ns mainGlobals mg/\B.heap.Ns builtinsNs mb/\∀ x:PySem.Str,x ≠ "__name__" -> mb x=bootBuiltins x
 lim:B.heap.NoLimit
section
variable {K:Frag}
theorem Zd4 (G:Gnd K B) {x:PySem.Str} {pos}{v:Value}{av:AV}{Q:QV} (e:nsIn K mainGlobals x=some (some v)) (hv:∀ h,VR h av v) (h:Q av hp)
  (hk:env.scope.kind = .function:=by rfl) (hx:env.kindOf x=some .globalImplicit:=by rfl) (hg:env.globals=mainGlobals:=by rfl) (hd:(x == ("__debug__" : PySem.Str))=false:=by decide) :
  EV (model PW W0) A E B env (.Name x pos) m hp Q:=λs r=>by
 refine hide λ_ Z=>?_;refine ad G.top λmg mb g b bb=>?_;apply Z;clear Z;exact Name_function_global hk hx (loadGlobal_global (hg ▸ g.keeps r.keep) (mg_of G.X g e) ⟨av,hp,r,.refl _,hv _,h⟩) hd
theorem Zax (G:Gnd K B) {x:PySem.Str} {pos}{v:Value}{av:AV}{Q:QV} (e:nsIn K mainGlobals x=some none) (hb:bootBuiltins x=some v) (hn:x ≠ "__name__") (hv:∀ h,VR h av v) (h:Q av hp)
  (hk:env.scope.kind = .function:=by rfl) (hx:env.kindOf x=some .globalImplicit:=by rfl) (hg:env.globals=mainGlobals:=by rfl) (hbl:env.builtins=builtinsNs:=by rfl) (hd:(x == ("__debug__" : PySem.Str))=false:=by decide) :
  EV (model PW W0) A E B env (.Name x pos) m hp Q:=λs r=>by
 refine hide λ_ Z=>?_;refine ad G.top λmg mb g b bb=>?_;apply Z;clear Z;exact Name_function_global hk hx (loadGlobal_builtin (hg ▸ g.keeps r.keep) (mg_none_of G.X g e) (hbl ▸ b.keeps r.keep) ((bb x hn).trans hb) ⟨av,hp,r,.refl _,hv _,h⟩) hd
theorem Zb2 {h:Heap}{n:String}:VR h (.bi n) (.builtin n):=by rfl
theorem Zeg {h:Heap}{n:String}:VR h (.ty n) (.type n):=by rfl
noncomputable def CL (M:Model) (A:Around) (E:ET) (B:Shared) (env:Env) (f:Value) (m:Loc) (avs:List AV) (hp:Hp) (Q:QV):Prop:=
 ∀ s vs,Rel B (hp.set env.locals (.ns m)) s->VRs s.heap avs vs->wpAny M A (call f vs) (λv s'=>∃ av hp',Rel B (hp'.set env.locals (.ns m)) s'/\ImmLe s.heap s'.heap/\VR s'.heap av v/\Q av hp') E s
noncomputable abbrev Zj5 (PW:Program) (W0:World) (A:Around) (E:ET) (B:Shared) (env:Env) (m:Loc) (e:Expr) (rest:List Expr) (id:String) (Q:QV):AV->Hp->Prop:=λf hp₁=>f = .bi id/\EVS (model PW W0) A E B env (e :: rest) m hp₁ λvs hp₂=>CL (model PW W0) A E B env (.builtin id) m vs hp₂ Q
theorem Zau {func e:Expr}{rest:List Expr} {pos}{id:String}{Q:QV}
  (h:EV (model PW W0) A E B env func m hp (Zj5 PW W0 A E B env m e rest id Q))
  (hc:eval (.Call func (e :: rest) [] pos) env=(do callWith pos (<-eval func env) [] (backTo pos (starEach (e :: rest) env)) (backToKw pos (keywordEach [] env))):=by rfl)
  (he:starEach (e :: rest) env=(false,eval e env) :: starEach rest env:=by rfl) (hplain:(backTo pos (starEach rest env)).any (·.1)=false:=by rfl) :
  EV (model PW W0) A E B env (.Call func (e :: rest) [] pos) m hp Q:=λs r=>by
 refine Call_ (h.use r λu s₁ f hp₁ r₁ le₁ hu yq=>?_) hc;refine az yq λhf q=>?_;subst hf;simp only[VR]at hu;subst hu;refine callWith_builtin1 (Zcr (q pos s₁ r₁) λvs sV avs hp₂ rV leV hv q=>?_) he hplain;exact useV (q sV vs rV hv) λv sX av hpX rX leX hv q=>mkV rX ((le₁.trans leV).trans leX) hv q
theorem Zbn {h:Heap}{a:AV}{vs:List Value} (x:VRs h [a] vs):∃ v,vs=[v]/\VR h a v:=by simp only[VRs]at x;refine ad x λv r V h1 ah=>?_;clear x;subst V;subst ah;exact ⟨v,rfl,h1⟩
theorem Zbg {h:Heap}{a b:AV}{vs:List Value} (x:VRs h [a,b] vs):∃ v u,vs=[v,u]/\VR h a v/\VR h b u:=by simp only[VRs]at x;refine ad x λv r V h1 ah=>?_;clear x;subst V;refine ad ah λu r' aB h2 ar=>?_;clear ah;subst aB;subst ar;exact ⟨v,u,rfl,h1,h2⟩
theorem Ztx {a:Int}{Q:QV} (h:Q (.int (if a < 0 then -a else a)) hp):CL (model PW W0) A E B env (.builtin "abs") m [.int a] hp Q:=λs vs r hv=>by obtain ⟨v,rfl,h1⟩:=Zbn hv;simp only[VR]at h1;obtain ⟨t,rfl⟩:=h1;exact call_abs_int λu tk=>mkV (r.toks _) (.refl _) VR_int h
theorem Zec {a:Addr}{xs:List AV}{Q:QV} (hl:Lst B hp env.locals a xs) (hsz:xs.length<=sizeLine) (h:Q (.int xs.length) hp):CL (model PW W0) A E B env (.builtin "len") m [.ref a] hp Q:=λs vs r hv=>by
 obtain ⟨v,rfl,h1⟩:=Zbn hv;simp only[VR]at h1;subst h1;refine aa (r.lst hl) λus hl hu=>?_;have e:us.size=xs.length:=by refine Array.length_toList▸?_;exact hu.length
 exact len_list hl (by rw[e];have:=sizeLine_eq;lia) ⟨_,hp,r.toks _,.refl _,by rw[e];exact VR_int,h⟩
noncomputable abbrev Zj4 (PW:Program) (W0:World) (A:Around) (E:ET) (B:Shared) (env:Env) (m:Loc) (e:Expr) (rest:List Expr) (f:Addr) (Q:QV):AV->Hp->Prop:=λv hp₁=>v = .ref f/\EVS (model PW W0) A E B env (e :: rest) m hp₁ λvs hp₂=>CL (model PW W0) A E B env (.ref f) m vs hp₂ Q
theorem Zpl {func e:Expr}{rest:List Expr} {pos}{f:Addr}{o:Obj}{fd:FuncData}{Q:QV} (G:Gnd K B) (ho:K.lookup f=some o) (hd:o.data = .func fd)
  (h:EV (model PW W0) A E B env func m hp (Zj4 PW W0 A E B env m e rest f Q))
  (hc:eval (.Call func (e :: rest) [] pos) env=(do callWith pos (<-eval func env) [] (backTo pos (starEach (e :: rest) env)) (backToKw pos (keywordEach [] env))):=by rfl)
  (he:starEach (e :: rest) env=(false,eval e env) :: starEach rest env:=by rfl) :
  EV (model PW W0) A E B env (.Call func (e :: rest) [] pos) m hp Q:=λs r=>by
 refine Call_ (h.use r λu s₁ v hp₁ r₁ le₁ hu yq=>?_) hc;refine az yq λhf q=>?_;subst hf;simp only[VR]at hu;subst hu;refine callWith_def hd (Zcr (q pos s₁ r₁) λvs sV avs hp₂ rV leV hv q=>?_) he;exact ⟨rV.keep _ _ (G.X _ _ ho),useV (q sV vs rV hv) λv sX av hpX rX leX hv q=>mkV rX ((le₁.trans leV).trans leX) hv q⟩
noncomputable def Zaq:List (PySem.Str × AV)->Loc
 | []=>λ_=>none
 | (x,v) :: r=>λy=>if y=x then some v else Zaq r y
theorem Zk9 {h:Heap}:∀ {bs:List (PySem.Str × AV)}{us:List (PySem.Str × Value)},us.map (·.1)=bs.map (·.1)->VRs h (bs.map (·.2)) (us.map (·.2))->LocR h (Zaq bs) (λx=>us.lookup x):=by
 intro r_
 induction r_ with
 | nil=>
  intro us e hv;refine ⟨λx v hx=>by (nomatch hx),λx _=>?_⟩;cases us with
  | nil=>rfl
  | cons _ _=>nomatch e
 | cons kv_ bs ih=>
  obtain ⟨y,v⟩:=kv_;intro us e hv;cases us with
  | nil=>nomatch e
  | cons u us=>
   obtain ⟨z,u⟩:=u;simp only[List.map_cons,List.cons.injEq]at e;simp only[List.map_cons,VRs,List.cons.injEq]at hv;obtain ⟨_,_,⟨rfl,rfl⟩,h1,h2⟩:=hv;obtain ⟨rfl,e2⟩:=e;refine ⟨λx x' hx=>?_,λx hx=>?_⟩
   .simp only [Zaq]at hx;by_cases hz:x=z
    .subst hz;simp only[if_true,Option.some.injEq]at hx;subst hx;exact ⟨u,by simp,h1⟩
    .simp only [hz,if_false]at hx;refine aa ((ih e2 h2).1 x x' hx) λu' hu' hv'=>?_;exact ⟨u',by simp only[List.lookup];rw[beq_eq_false_iff_ne.mpr hz];exact hu',hv'⟩
   .simp only [Zaq]at hx;by_cases hz:x=z
    .simp [hz]at hx
    .simp only [hz,if_false]at hx;have:=(ih e2 h2).2 x hx;simp only[List.lookup];rw[beq_eq_false_iff_ne.mpr hz];exact this
noncomputable def Zfq:AF->AV
 | .ret v=>v
 | _=>.none
theorem Znx {h:Heap}{fl:Flow}:∀ {af:AF},FR h af fl->VR h (Zfq af) (match fl with | .ret v=>v | _=>.none)
 | .next,e=>by cases e;exact VR_none
 | .brk,e=>by cases e;exact VR_none
 | .cont,e=>by cases e;exact VR_none
 | .ret v,⟨u,e,hu⟩=>by subst e;exact hu
noncomputable def CD (M:Model) (A:Around) (E:ET) (B:Shared) (env:Env) (f:Value) (m:Loc) (avs:List AV) (hp:Hp) (Q:QV):Prop:=
 ∀ s vs,Rel B (hp.set env.locals (.ns m)) s->VRs s.heap avs vs->codeAny M A (.call f ⟨vs,[]⟩)
  (λr s'=>match r with | .ok (.ret v)=>∃ av hp',Rel B (hp'.set env.locals (.ns m)) s'/\ImmLe s.heap s'.heap/\VR s'.heap av v/\Q av hp' | .ok _=>False | .error e=>E e s') s
theorem CD.cl {M:Model}{f:Value}{avs:List AV}{Q:QV} (h:CD M A E B env f m avs hp Q):CL M A E B env f m avs hp Q:=λs vs r hv=>wpAny_call (h s vs r hv)
noncomputable def CD2 (M:Model) (A:Around) (E:ET) (B BV:Shared) (env:Env) (f:Value) (m:Loc) (avs:List AV) (hp:Hp) (Q:QV):Prop:=
 ∀ s vs,Rel B (hp.set env.locals (.ns m)) s->VRs s.heap avs vs->codeAny M A (.call f ⟨vs,[]⟩)
  (λr s'=>match r with | .ok (.ret v)=>∃ av hp',Rel BV (hp'.set env.locals (.ns m)) s'/\ImmLe s.heap s'.heap/\VR s'.heap av v/\Q av hp' | .ok _=>False | .error e=>E e s') s
noncomputable def EXs2 (M:Model) (A:Around) (E:ET) (B BV:Shared) (env:Env) (sts:List Stmt) (m:Loc) (hp:Hp) (Q:QX):Prop:=
 ∀ s,Rel B (hp.set env.locals (.ns m)) s->wpAny M A (execs sts env) (λf s'=>∃ af m' hp',Rel BV (hp'.set env.locals (.ns m')) s'/\ImmLe s.heap s'.heap/\FR s'.heap af f/\Q af m' hp') E s
theorem Znd {BV:Shared}{f:Addr}{o:Obj}{fd:FuncData}{body:List Stmt}{avs:List AV}{bs:List (PySem.Str × AV)}{Q:QV} (G:Gnd K B) (ho:K.lookup f=some o) (hd:o.data = .func fd) (hcd:codeIn K fd.code fd.qualname=true)
  (hbody:fd.body = .stmts body) (hroom:A.depth < recursionLimit)
  (hbind:∀ s vs,VRs s.heap avs vs->(∀ b o,B.heap.get? b=some o->s.heap.get? b=some o)->∃ us:List (PySem.Str × Value),BindsTo s fd ⟨vs,[]⟩ us/\us.reverse.map (·.1)=bs.map (·.1)/\VRs s.heap (bs.map (·.2)) (us.reverse.map (·.2)))
  (hloc:bs.all (λx=>fd.scope.names.lookup x.1 == some .local)=true) (hcell:∀ x ∈ fd.scope.names,x.2≠.cell)
  (h:∀ L,hp L=none->L≠env.locals->EXs2 (model PW W0) (A.deeper (callEnv fd L f)) (λ_ _=>False) B BV (callEnv fd L f) body (Zaq bs) (hp.set env.locals (.ns m))
   (λfl _ hp'=>∃ hp₂:Hp,(∀ a o,(hp₂.set env.locals (.ns m)) a=some o->hp' a=some o/\a≠L)/\Q (Zfq fl) hp₂))
  (hco:fd.scope.isCoroutine=false:=by rfl) (hgen:fd.scope.isGenerator=false:=by rfl) (hk:fd.scope.kind = .function:=by rfl) :
  CD2 (model PW W0) A E B BV env (.ref f) m avs hp Q:=λs vs r hv=>by
 refine hide λ_ Z=>?_;refine ae (hbind s vs hv r.keep) λus hb e1 e2=>?_;apply Z;clear Z;have nm:us.map (·.1)=(bs.map (·.1)).reverse:=by rw[<-e1,List.map_reverse,List.reverse_reverse]
 refine codeAny_call_def hroom (r.keep _ _ (G.X _ _ ho)) hd (G.lim.keeps r.keep) (codeRec_of (G.X.keeps r.keep) hcd) hbody hb hcell (λx hx=>?_) (λh₀ hns hkZ=>?_) hco hgen hk
 .refine hide λ_ Z=>?_;have:x.1 ∈ bs.map (·.1):=by rw[<-List.mem_reverse,<-nm];exact List.mem_map_of_mem hx
  refine aa (List.mem_map.mp this) λy hy e=>?_;apply Z;clear Z;refine e▸?_
  simpa using List.all_eq_true.mp hloc y hy
 .have hne:s.heap.objs.size≠env.locals:=λe=>by have f:=r.fresh;rw[e,Hp.ss]at f;cases f
  have hfr:hp s.heap.objs.size=none:=by have f:=r.fresh;rw[Hp.sn _ _ hne]at f;exact f
  have le:ImmLe s.heap h₀:=ImmLe.keep hkZ;have rel:Rel B ((hp.set env.locals (.ns m)).set (callEnv fd s.heap.objs.size f).locals (.ns (Zaq bs))) { s with heap:=h₀,toks:=s.toks + us.length }:=by
   refine ⟨λb o e=>hkZ _ _ (r.keep b o e),λa o' e=>?_,r.os,r.bare,?_⟩
   .by_cases ha:a=s.heap.objs.size
    .subst ha;rw[show (callEnv fd s.heap.objs.size f).locals=s.heap.objs.size from rfl,Hp.ss]at e;cases e;exact ⟨r.size,_,hns,Zk9 e1 (e2.mono le)⟩
    .rw [show (callEnv fd s.heap.objs.size f).locals=s.heap.objs.size from rfl,Hp.sn _ _ ha]at e;exact ⟨(r.objs a o' e).1,(r.objs a o' e).2.here le λo'' e=>hkZ _ _ e⟩
   .exact Nat.le_trans r.size (Nat.le_of_lt hns.lt)
  refine wpAny_mono (h _ hfr hne _ rel) (λfl s' x=>?_) λ_ _ x=>x.elim;refine hide λ_ Z=>?_;refine aw x λaf m' hp' r' le' hf V=>?_;refine aa V λhp₂ hsub q=>?_;clear V;apply Z;clear Z;refine mkV (av:=Zfq af) (r'.sub λa o e=>?_) (le.trans le') (Znx hf) q;have:=hsub a o e;rw[show (callEnv fd s.heap.objs.size f).locals=s.heap.objs.size from rfl,Hp.sn _ _ this.2];exact this.1
theorem Zt0 {f:Addr}{o:Obj}{fd:FuncData}{body:List Stmt}{avs:List AV}{bs:List (PySem.Str × AV)}{Q:QV} (G:Gnd K B) (ho:K.lookup f=some o) (hd:o.data = .func fd) (hcd:codeIn K fd.code fd.qualname=true)
  (hbody:fd.body = .stmts body) (hroom:A.depth < recursionLimit)
  (hbind:∀ s vs,VRs s.heap avs vs->(∀ b o,B.heap.get? b=some o->s.heap.get? b=some o)->∃ us:List (PySem.Str × Value),BindsTo s fd ⟨vs,[]⟩ us/\us.reverse.map (·.1)=bs.map (·.1)/\VRs s.heap (bs.map (·.2)) (us.reverse.map (·.2)))
  (hloc:bs.all (λx=>fd.scope.names.lookup x.1 == some .local)=true) (hcell:∀ x ∈ fd.scope.names,x.2≠.cell)
  (h:∀ L,hp L=none->L≠env.locals->EXs (model PW W0) (A.deeper (callEnv fd L f)) (λ_ _=>False) B (callEnv fd L f) body (Zaq bs) (hp.set env.locals (.ns m))
   (λfl _ hp'=>∃ hp₂:Hp,(∀ a o,(hp₂.set env.locals (.ns m)) a=some o->hp' a=some o/\a≠L)/\Q (Zfq fl) hp₂))
  (hco:fd.scope.isCoroutine=false:=by rfl) (hgen:fd.scope.isGenerator=false:=by rfl) (hk:fd.scope.kind = .function:=by rfl) :
  CD (model PW W0) A E B env (.ref f) m avs hp Q:=Znd G ho hd hcd hbody hroom hbind hloc hcell h hco hgen hk
theorem Zi9 {h:Heap}{xs:List AV}{vs:Array Value} (hv:VRs h xs vs.toList) (lo hi:Option Int):VRs h (pick xs lo hi) (slicePick vs lo hi none).toList:=by
 rw[slicePick_plain];have e:vs.size=xs.length:=by refine Array.length_toList▸?_;exact hv.length
 refine e▸?_;exact (hv.drop _).take _
noncomputable abbrev Zj1 (PW:Program) (W0:World) (A:Around) (E:ET) (B:Shared) (env:Env) (m:Loc) (lower:Option Expr) (upper:Option Expr) (Q:QV):AV->Hp->Prop:=λo hp₁=>optE (model PW W0) A E B env lower m hp₁ λlo hp₂=>optE (model PW W0) A E B env upper m hp₂ λhi hpX=>∃ a xs kl ku,o = .ref a/\Lst B hpX env.locals a xs/\xs.length<=sizeLine/\Zgo lo=some kl/\Zgo hi=some ku/\∀ b,hpX b=none->b≠env.locals->Q (.ref b) (hpX.set b (.list (pick xs kl ku)))
theorem Zep {value:Expr}{lower upper:Option Expr} {p pos}{Q:QV}
  (h:EV (model PW W0) A E B env value m hp (Zj1 PW W0 A E B env m lower upper Q))
  (ht:∀ o r,letTemporaryGo value o r=pure ():=by intro _ _;rfl) :
  EV (model PW W0) A E B env (.Subscript value (.Slice lower upper none p) pos) m hp Q:=λs r=>by
 refine wpAny_Subscript_list_slice (h.use r λu s₁ o hp₁ r₁ le₁ hu h₁=>h₁.use r₁ λvl sV lo hp₂ rV leV hl hV=>hV.use rV λvu sX hi hpX rX leX hh hX=>?_) ht;refine hide λ_ Z=>?_;refine aQ hX λa xs kl ku V hls hsz pl pu q=>?_;clear hX;subst V;simp only[VR]at hu;subst hu;refine aa (rX.lst hls) λvs hlst hvs=>?_;apply Z;clear Z;have e:vs.size=xs.length:=by refine Array.length_toList▸?_;exact hvs.length
 refine ⟨a,vs,kl,ku,rfl,hlst,by rw[e];exact hsz,(hl.mono leX).part pl,hh.part pu,?_⟩;have rj:=rX.push { cls:=.type "slice",data:=.fields #[vl,vu,.none] };have lej:ImmLe sX.heap (sX.heap.push { cls:=.type "slice",data:=.fields #[vl,vu,.none] }):=ImmLe.keep λb o'' e=>Heap.get?_push_of_some _ e;have n:=Rel.newAt rj { cls:=.type "list",data:=.seq (slicePick vs kl ku none) } (.list (pick xs kl ku)) ⟨_,0,IsL.new _ _,Zi9 (hvs.mono (lej.trans (ImmLe.keep λb o'' e=>Heap.get?_push_of_some _ e))) kl ku⟩;have hs:(sX.heap.push { cls:=.type "slice",data:=.fields #[vl,vu,.none] }).objs.size=sX.heap.objs.size + 1:=by simp
 simp only[hs]at n;exact mkV (av:=.ref _) n.1 (((le₁.trans leV).trans leX).trans (lej.trans n.2.2.2)) VR_ref (q _ n.2.1 n.2.2.1)
theorem Zek {name:PySem.Str}{id:String}{pl:Sem Bool}{s:Shared}{a:Addr}{xs:List AV}{Q:Value × List Value->Shared->Prop} (slot:Slot "list" name id) (hty:typeOf (.builtin id)=pure (.type "method_descriptor"))
  (r:Rel B (hp.set env.locals (.ns m)) s) (ha:hp a=some (.list xs)) (hL:a≠env.locals) (h:Q (.builtin id,[.ref a]) s):wpAny (model PW W0) A (getMethod (.ref a) name pl) Q E s:=by
 refine hide λ_ Z=>?_;obtain ⟨vs,n,hl,_⟩:=r.at ha hL;apply Z;clear Z;exact getMethod_builtin hl.isList.typeIs PySem.F.plainAttrs_list slot hty (λb e=>by cases e;exact ⟨_,hl,rfl⟩) h
noncomputable abbrev Zid (PW:Program) (W0:World) (A:Around) (E:ET) (B:Shared) (env:Env) (m:Loc) (e:Expr) (Q:QV):AV->Hp->Prop:=λl hp₁=>∃ a xs₁,l = .ref a/\hp₁ a=some (.list xs₁)/\a≠env.locals/\EVS (model PW W0) A E B env [e] m hp₁ λvs hp₂=>∃ xs v,vs=[v]/\hp₂ a=some (.list xs)/\xs.length<=sizeLine/\Q .none (hp₂.set a (.list (xs ++ [v])))
theorem Za9 {o e:Expr} {apos pos}{pl:Sem Bool}{Q:QV}
  (h:EV (model PW W0) A E B env o m hp (Zid PW W0 A E B env m e Q))
  (hc:eval (.Call (.Attribute o (PySem.Str.ofString "append") apos) [e] [] pos) env=(do
   let ov <-eval o env
   standAt apos.atName
   let (f,first) <-holding [ov] (getMethod ov (PySem.Str.ofString "append") pl)
   callWith pos f first (backTo pos (starEach [e] env)) []):=by rfl)
  (he:starEach [e] env=[(false,eval e env)]:=by rfl) :
  EV (model PW W0) A E B env (.Call (.Attribute o (PySem.Str.ofString "append") apos) [e] [] pos) m hp Q:=λs r=>by
 refine MethodCall_ (pl:=pl) (h.use r λu s₁ l hp₁ r₁ le₁ hu x=>?_) hc;refine hide λ_ Z=>?_;refine aq x λa xs₁ V ha hL q=>?_;clear x;subst V;apply Z;clear Z;simp only[VR]at hu;subst hu;refine Zek slot_list_append type_list_append r₁ ha hL ?_;refine callWith_method1 (Zcr (q pos s₁ r₁) λvs sV avs hp₂ rV leV hv x=>?_) he;refine hide λ_ Z=>?_;refine aq x λxs v V haV hsz q=>?_;clear x;subst V;obtain ⟨y,rfl,hy⟩:=Zbn hv;refine am (rV.at haV hL) λus n hl hus=>?_;apply Z;clear Z;have e2:us.size=xs.length:=by refine Array.length_toList▸?_;exact hus.length
 refine wpAny_list_append_plain (items:=us) ⟨n,hl⟩ (λh' hpl hs=>?_) (by rw[e2];exact hsz);refine hide λ_ Z=>?_;obtain ⟨n',hl'⟩:=hpl;apply Z;clear Z;have t:=rV.turn (a:=a) (Hp.snt hL haV) hs (.list (xs ++ [v])) (λle=>⟨us.push y,n',hl',by rw[Array.toList_push];exact (hus.mono le).append (VRs.one (hy.mono le))⟩) sV.toks;rw[Hp.sc _ _ _ (Ne.symm hL)]at t;exact mkV (av:=.none) t.1 ((le₁.trans leV).trans t.2) VR_none q
noncomputable abbrev Zmu (m:Loc) (Q:QX):AV->Hp->Prop:=λv hp'=>(∀ a,v≠.ref a)/\(∀ xs,v≠.tup xs)/\(∀ xs,v≠.mat xs)/\Q .next m hp'
theorem Za0 {e:Expr} {pos}{Q:QX} (h:EV (model PW W0) A E B env e m hp (Zmu m Q)) (hi:interactive env=false:=by rfl)
  (hs:swapsWith e none pos.line env=pure false:=by rfl):EX (model PW W0) A E B env (.Expr e pos) m hp Q:=λs r=>by
 refine wpAny_Expr (h.use r λu s₁ v hp₁ r₁ le₁ hu q=>?_) hi hs;have post:∃ af m' hp',Rel B (hp'.set env.locals (.ns m')) s₁/\ImmLe s.heap s₁.heap/\FR s₁.heap af .next/\Q af m' hp':=mkX (af:=.next) r₁ le₁ rfl q.2.2.2;cases v with
 | ref a=>exact absurd rfl (q.1 a)
 | tup xs=>exact absurd rfl (q.2.1 xs)
 | mat xs=>exact absurd rfl (q.2.2.1 xs)
 | none=>simp only[VR]at hu;subst hu;exact post
 | bool b=>simp only[VR]at hu;subst hu;exact post
 | int b=>simp only[VR]at hu;obtain ⟨t,rfl⟩:=hu;exact post
 | str b=>simp only[VR]at hu;obtain ⟨t,rfl⟩:=hu;exact post
 | flt b=>simp only[VR]at hu;obtain ⟨t,rfl⟩:=hu;exact post
 | ty b=>simp only[VR]at hu;subst hu;exact post
 | bi b=>simp only[VR]at hu;subst hu;exact post
end
section
variable {K:Frag}
theorem Rel.ext {s:Shared} (r:Rel B (hp.set env.locals (.ns m)) s) {h':Heap} (he:Heap.ExtBut s.heap.objs.size s.heap h') (t:Nat):Rel B (hp.set env.locals (.ns m)) { s with heap:=h',toks:=t }/\ImmLe s.heap h':=by have k:∀ b o,s.heap.get? b=some o->h'.get? b=some o:=λb o e=>he b o (Nat.ne_of_lt (Heap.lt_size e)) e;refine ⟨⟨λb o e=>k b o (r.keep b o e),λa o e=>⟨(r.objs a o e).1,(r.objs a o e).2.here (ImmLe.keep k) λo' e'=>k _ _ e'⟩,r.os,r.bare,?_⟩,ImmLe.keep k⟩;obtain ⟨h1,h2⟩:=r.objs env.locals _ (Hp.ss ..);obtain ⟨ob,hob⟩:=h2.ex;exact Nat.le_trans h1 (Nat.le_of_lt (Heap.lt_size (k _ _ hob)))
noncomputable def ASG (M:Model) (A:Around) (E:ET) (B:Shared) (env:Env) (t:Expr) (x:AV) (m:Loc) (hp:Hp) (Q:Loc->Hp->Prop):Prop:=
 ∀ s v,Rel B (hp.set env.locals (.ns m)) s->VR s.heap x v->wpAny M A (assign t env v) (λ_ s'=>∃ m' hp',Rel B (hp'.set env.locals (.ns m')) s'/\ImmLe s.heap s'.heap/\Q m' hp') E s
theorem Zai {x:PySem.Str} {pos}{v:AV}{Q:Loc->Hp->Prop} (h:Q (upd m x v) hp) (hl:env.kindOf x=some .local:=by rfl)
  (hk:(env.scope.kind == .class || (env.scope.kind == .module && env.locals != env.globals))=false:=by rfl):ASG (model PW W0) A E B env (.Name x pos) v m hp Q:=λs u r hu=>
 PyProof.Rows.assign_Name (Zb6 r hu (λs' r' le=>mkA r' le h) hl hk)
noncomputable def ASGS (M:Model) (A:Around) (E:ET) (B:Shared) (env:Env) (ts:List (Value->Sem Unit)) (xs:List AV) (m:Loc) (hp:Hp) (Q:Loc->Hp->Prop):Prop:=
 ∀ s vs,Rel B (hp.set env.locals (.ns m)) s->VRs s.heap xs vs->wpAny M A (assignInOrder ts vs) (λ_ s'=>∃ m' hp',Rel B (hp'.set env.locals (.ns m')) s'/\ImmLe s.heap s'.heap/\Q m' hp') E s
theorem Zas {Q:Loc->Hp->Prop} (h:Q m hp):ASGS (model PW W0) A E B env [] [] m hp Q:=λs vs r _=>assignInOrder_nil ⟨m,hp,r,.refl _,h⟩
noncomputable abbrev Zif (PW:Program) (W0:World) (A:Around) (E:ET) (B:Shared) (env:Env) (ts:List (Value->Sem Unit)) (xs:List AV) (Q:Loc->Hp->Prop):Loc->Hp->Prop:=λm' hp'=>ASGS (model PW W0) A E B env ts xs m' hp' Q
theorem Zak {t:Expr}{ts:List (Value->Sem Unit)}{x:AV}{xs:List AV}{Q:Loc->Hp->Prop} (h:ASG (model PW W0) A E B env t x m hp (Zif PW W0 A E B env ts xs Q)) :
  ASGS (model PW W0) A E B env (assign t env :: ts) (x :: xs) m hp Q:=λs vs r hv=>by
 simp only[VRs]at hv;refine ad hv λv us V h1 h2=>?_;clear hv;subst V;refine assignInOrder_cons (useA (h s v r h1) λ_ s₁ m₁ hp₁ r₁ le₁ q=>?_);exact useA (q s₁ us r₁ (h2.mono le₁)) λ_ sV m₂ hp₂ rV leV q=>mkA rV (le₁.trans leV) q
theorem Zap {x:PySem.Str}{ts:List (Value->Sem Unit)}{v:AV}{xs:List AV}{Q:Loc->Hp->Prop} (h:ASGS (model PW W0) A E B env ts xs (upd m x v) hp Q) (hl:env.kindOf x=some .local:=by rfl)
  (hk:(env.scope.kind == .class || (env.scope.kind == .module && env.locals != env.globals))=false:=by rfl):ASGS (model PW W0) A E B env (bindName env x :: ts) (v :: xs) m hp Q:=λs vs r hv=>by
 simp only[VRs]at hv;refine ad hv λv us V h1 h2=>?_;clear hv;subst V;refine assignInOrder_cons (bindName_ (Zb6 r h1 (λs₁ r₁ le₁=>?_) hl hk));exact useA (h s₁ us r₁ (h2.mono le₁)) λ_ sV m₂ hp₂ rV leV q=>mkA rV (le₁.trans leV) q
theorem Zbh {elts:List Expr} {k pos}{xs:List AV}{ts:List (Value->Sem Unit)}{Q:Loc->Hp->Prop} (hh:A.handled=none) (hts:(assignEach elts env).map (·.2)=ts) (hn:(assignEach elts env).length=xs.length) (hstar:(assignEach elts env).findIdx? (·.1)=none)
  (h:ASGS (model PW W0) A E B env ts xs m hp Q):ASG (model PW W0) A E B env (.Tuple elts k pos) (.tup xs) m hp Q:=λs v r hv=>by
 simp only[VR]at hv;refine ad hv λa vs V ht hvs=>?_;clear hv;subst V;refine assign_Tuple_tuple hh ht (by exact (hn.trans (hvs.length.symm.trans (Array.length_toList)))) hstar λh' he=>?_;obtain ⟨r',le⟩:=r.ext he s.toks;refine hts▸?_;exact useA (h _ _ r' (hvs.mono le)) λ_ sV m₂ hp₂ rV leV q=>mkA rV (le.trans leV) q
noncomputable abbrev Zhj (PW:Program) (W0:World) (A:Around) (E:ET) (B:Shared) (env:Env) (m:Loc) (t₁:Expr) (tV:Expr) (Q:QX):AV->Hp->Prop:=λv hp₁=>ASG (model PW W0) A E B env t₁ v m hp₁ λm₂ hp₂=>ASG (model PW W0) A E B env tV v m₂ hp₂ λmX hpX=>Q .next mX hpX
theorem Zba {t₁ tV value:Expr} {pos}{Q:QX}
  (h:EV (model PW W0) A E B env value m hp (Zhj PW W0 A E B env m t₁ tV Q))
  (he:(assignEach [t₁,tV] env).map (·.2)=[assign t₁ env,assign tV env]:=by rfl) (hw:swappedStores [t₁,tV] value env=pure none:=by rfl):EX (model PW W0) A E B env (.Assign [t₁,tV] value pos) m hp Q:=λs r=>by
 refine wpAny_Assign_two (h.use r λu s₁ v hp₁ r₁ le₁ hu q=>?_) he hw;refine useA (q s₁ u r₁ hu) λ_ sV m₂ hp₂ rV leV q=>?_;exact useA (q sV u rV (hu.mono leV)) λ_ sX mX hpX rX leX q=>mkX (af:=.next) rX ((le₁.trans leV).trans leX) rfl q
noncomputable abbrev Zhi (PW:Program) (W0:World) (A:Around) (E:ET) (B:Shared) (env:Env) (m:Loc) (t₁:Expr) (tV:Expr) (tX:Expr) (Q:QX):AV->Hp->Prop:=λv hp₁=>ASG (model PW W0) A E B env t₁ v m hp₁ λm₂ hp₂=>ASG (model PW W0) A E B env tV v m₂ hp₂ λmX hpX=>ASG (model PW W0) A E B env tX v mX hpX λmj hpj=>Q .next mj hpj
theorem Zkd {t₁ tV tX value:Expr} {pos}{Q:QX}
  (h:EV (model PW W0) A E B env value m hp (Zhi PW W0 A E B env m t₁ tV tX Q))
  (he:(assignEach [t₁,tV,tX] env).map (·.2)=[assign t₁ env,assign tV env,assign tX env]:=by rfl) (hw:swappedStores [t₁,tV,tX] value env=pure none:=by rfl):EX (model PW W0) A E B env (.Assign [t₁,tV,tX] value pos) m hp Q:=λs r=>by
 refine wpAny_Assign_three (h.use r λu s₁ v hp₁ r₁ le₁ hu q=>?_) he hw;refine useA (q s₁ u r₁ hu) λ_ sV m₂ hp₂ rV leV q=>?_;refine useA (q sV u rV (hu.mono leV)) λ_ sX mX hpX rX leX q=>?_;exact useA (q sX u rX ((hu.mono leV).mono leX)) λ_ sj mj hpj rj lej q=>mkX (af:=.next) rj (((le₁.trans leV).trans leX).trans lej) rfl q
noncomputable abbrev Zhg (PW:Program) (W0:World) (A:Around) (E:ET) (B:Shared) (env:Env) (m:Loc) (elts:List Expr) (Q:QX) (k:Nat) (tpos:Pos):AV->Hp->Prop:=λv hp₁=>ASG (model PW W0) A E B env (.Tuple elts k tpos) v m hp₁ λm₂ hp₂=>Q .next m₂ hp₂
theorem Zbj {elts:List Expr} {k tpos}{value:Expr} {pos}{Q:QX}
  (h:EV (model PW W0) A E B env value m hp (Zhg PW W0 A E B env m elts Q k tpos))
  (hs:swapsWithSole [.Tuple elts k tpos] value pos.line env=pure false:=by rfl) (hw:swappedStores [.Tuple elts k tpos] value env=pure none:=by rfl):EX (model PW W0) A E B env (.Assign [.Tuple elts k tpos] value pos) m hp Q:=λs r=>by
 refine Assign_Tuple (h.use r λu s₁ v hp₁ r₁ le₁ hu q=>?_) hs hw;exact useA (q s₁ u r₁ hu) λ_ sV m₂ hp₂ rV leV q=>mkX (af:=.next) rV (le₁.trans leV) rfl q
noncomputable abbrev Zf8 (PW:Program) (W0:World) (A:Around) (E:ET) (B:Shared) (env:Env) (m:Loc) (names:List PySem.Str) (Q:QX):AV->Hp->Prop:=λv hp₁=>∃ xs,v = .tup xs/\names.length=xs.length/\ASGS (model PW W0) A E B env (names.reverse.map λn=>bindName env n) xs.reverse m hp₁ λm₂ hp₂=>Q .next m₂ hp₂
theorem Za1 {elts:List Expr} {k tpos}{value:Expr} {pos}{names:List PySem.Str}{Q:QX} (hh:A.handled=none)
  (h:EV (model PW W0) A E B env value m hp (Zf8 PW W0 A E B env m names Q))
  (hs:swapsWithSole [.Tuple elts k tpos] value pos.line env=pure false:=by rfl) (hw:swappedStores [.Tuple elts k tpos] value env=pure (some names):=by rfl):EX (model PW W0) A E B env (.Assign [.Tuple elts k tpos] value pos) m hp Q:=λs r=>by
 refine Assign_Tuple_swapped (names:=names) (h.use r λu s₁ v hp₁ r₁ le₁ hu q=>?_) hs hw;refine hide λ_ Z=>?_;obtain ⟨xs,rfl,hn,q⟩:=q;simp only[VR]at hu;refine ad hu λa vs V ht hvs=>?_;clear hu;subst V;apply Z;clear Z;have e:names.length=vs.size:=by exact (hn.trans (hvs.length.symm.trans (Array.length_toList)))
 refine e▸?_;refine unpackItems_tuple hh ht λh' he=>?_;refine hide λ_ Z=>?_;obtain ⟨r',le⟩:=r₁.ext he s₁.toks;apply Z;clear Z;have hrev:∀ {xs:List AV}{vs:List Value},VRs h' xs vs->VRs h' xs.reverse vs.reverse:=by
  intro xs
  induction xs with
  | nil=>intro vs x;simp only[VRs]at x;subst x;rfl
  | cons x xs ih=>
   intro vs hx;simp only[VRs]at hx;refine ad hx λv r V h1 h2=>?_;clear hx;subst V;rw[List.reverse_cons,List.reverse_cons];exact (ih h2).append (VRs.one h1)
 exact useA (q _ _ r' (hrev (hvs.mono le))) λ_ sV m₂ hp₂ rV leV q=>mkX (af:=.next) rV ((le₁.trans le).trans leV) rfl q
end
noncomputable def Hp.del (hp:Hp) (a:Addr):Hp:=λb=>if b=a then none else hp b
section
variable {K:Frag}
theorem Rel.drop {s:Shared} (r:Rel B (hp.set env.locals (.ns m)) s) {it:Addr}{ob:Obj} (hit:hp it=some (.obj ob)) (hL:it≠env.locals) {h':Heap} (he:Heap.ExtBut it s.heap h') (t:Nat) :
  Rel B ((hp.del it).set env.locals (.ns m)) { s with heap:=h',toks:=t }/\ImmLe s.heap h':=by
 have hit':(hp.set env.locals (.ns m)) it=some (.obj ob):=Hp.snt hL hit;have le:ImmLe s.heap h':=λb o e i=>by
  by_cases hb:b=it
  .subst hb;exact absurd i ((r.objs _ _ hit').2.notImm _ e)
  .exact he b o hb e
 have hlow:=(r.objs _ _ hit').1;refine ⟨⟨λb o e=>he b o (λhb=>?_) (r.keep b o e),λa o e=>?_,r.os,r.bare,?_⟩,le⟩
 .subst hb;exact absurd (Heap.lt_size e) (Nat.not_lt.mpr hlow)
 .have ha:a≠it:=by rintro rfl;rw[Hp.sn _ _ hL]at e;simp[Hp.del]at e
  have e':(hp.set env.locals (.ns m)) a=some o:=by
   by_cases hl:a=env.locals
   .subst hl;rw[Hp.ss]at e ⊢;exact e
   .rw [Hp.sn _ _ hl]at e ⊢;simpa [Hp.del,ha] using e
  exact ⟨(r.objs a o e').1,(r.objs a o e').2.here le λo' e''=>he _ _ ha e''⟩
 .obtain ⟨h1,h2⟩:=r.objs env.locals _ (Hp.ss ..);obtain ⟨ob',hob⟩:=h2.ex;exact Nat.le_trans h1 (Nat.le_of_lt (Heap.lt_size (he _ _ (Ne.symm hL) hob)))
theorem Zby {target:Expr}{it:Addr}{v:Value}{ob:Obj}{n:String}{s:Shared}{W:Unit->Shared->Prop}{E':ET} (h:s.heap.get? it=some ob) (hc:ob.cls = .type n)
  (hn : ["enumerate", "zip", "dict_itemiterator", "dict_reverseitemiterator", "odict_iterator", "itertools.zip_longest", "itertools.pairwise"].contains n=false) (hW:W () s):wpAny (model PW W0) A (letOwnedTupleGo target (.ref it) v) W E' s:=by
 have tup:wpAny (model PW W0) A (letOwnedTupleGo (.Tuple [] 0 ⟨0,0,0,0⟩) (.ref it) v) W E' s:=by
  cases v with
  | ref a=>
   refine wB (wpAny_load h ?_);obtain ⟨c,d,dt,sl⟩:=ob;dsimp only at hc;subst hc;cases dt with
   | fields vs=>dsimp only;refine hn▸?_;exact wP hW
   | _=>exact wP hW
  | _=>exact wP hW
 cases target with
 | Tuple=>exact tup
 | List=>exact tup
 | _=>exact wP hW
theorem Zgb {target:Expr}{body:List Stmt}{it:Addr}{n:Nat}{el:Nat->AV}{st:Nat->Obj->Prop}{I:Nat->Loc->Hp->Prop}{Q:QX}{R:Result->Shared->Prop} (hL:it≠env.locals)
  (imm:∀ i ob,st i ob->¬ Imm ob)
  (next:∀ i m₂ hp₂ s ob,i < n->I i m₂ hp₂->hp₂ it=some (.obj ob)->st i ob->Rel B (hp₂.set env.locals (.ns m₂)) s->∀ (E':ET) (W:Option Value->Shared->Prop),
   (∀ v h' t' ob',VR s.heap (el i) v->h'.get? it=some ob'->st (i + 1) ob'->Heap.SameBut it s.heap h'->W (some v) { s with heap:=h',toks:=t' })->wpAny (model PW W0) A (pyNext (.ref it)) W E' s)
  (stop:∀ m₂ hp₂ s ob,I n m₂ hp₂->hp₂ it=some (.obj ob)->st n ob->Rel B (hp₂.set env.locals (.ns m₂)) s->∀ (E':ET) (W:Option Value->Shared->Prop),
   (∀ h' t',Heap.ExtBut it s.heap h'->W none { s with heap:=h',toks:=t' })->wpAny (model PW W0) A (pyNext (.ref it)) W E' s)
  (hset:∀ i m₂ hp₂ ob,I i m₂ hp₂->I i m₂ (hp₂.set it (.obj ob)))
  (turn:∀ i m₂ hp₂ ob,i < n->I i m₂ hp₂->hp₂ it=some (.obj ob)->ASG (model PW W0) A (λ_ _=>False) B env target (el i) m₂ hp₂ λmX hpX=>EXs (model PW W0) A (λ_ _=>False) B env body mX hpX λfl mj hpj=>
   match fl with | .next | .cont=>I (i + 1) mj hpj/\hpj it=some (.obj ob) | .brk=>Q .next mj hpj | .ret v=>Q (.ret v) mj hpj)
  (fin:∀ m₂ hp₂,I n m₂ hp₂->Q .next m₂ (hp₂.del it)) {s₀:Shared}
  (hR:∀ fl af m' hp' s',Rel B (hp'.set env.locals (.ns m')) s'->ImmLe s₀.heap s'.heap->FR s'.heap af fl->Q af m' hp'->R (.ok fl) s')
  {s:Shared}{ob:Obj} (h0:I 0 m hp) (hob:hp it=some (.obj ob)) (hst:st 0 ob) (rel:Rel B (hp.set env.locals (.ns m)) s) (leZ:ImmLe s₀.heap s.heap)
  (cl:∀ i ob,st i ob->∃ n,ob.cls = .type n/\["enumerate", "zip", "dict_itemiterator", "dict_reverseitemiterator", "odict_iterator", "itertools.zip_longest", "itertools.pairwise"].contains n=false) :
  codeAny (model PW W0) A (.forLoop target (.ref it) body [] env) R s:=by
 refine codeAny_forLoop_any (λk s'=>∃ i m₂ hp₂ ob,k=n - i/\i<=n/\I i m₂ hp₂/\hp₂ it=some (.obj ob)/\st i ob/\Rel B (hp₂.set env.locals (.ns m₂)) s'/\ImmLe s₀.heap s'.heap) (λk s' x=>?_) n ⟨0,m,hp,ob,rfl,Nat.zero_le _,h0,hob,hst,rel,leZ⟩;refine hide λ_ Z=>?_;refine aS x λi m₂ hp₂ ob V hi hI hob hst r le=>?_;clear x;subst V;apply Z;clear Z;by_cases hlt:i < n
 .refine next i m₂ hp₂ s' ob hlt hI hob hst r _ _ λv h' t' ob' hv hg hst' hs=>?_
  refine hide λ_ Z=>?_;have t:=r.turn (a:=it) (o:=.obj ob) (Hp.snt hL hob) hs (.obj ob') (λ_=>⟨hg,imm _ _ hst'⟩) t';rw[Hp.sc _ _ _ (Ne.symm hL)]at t;refine aa (cl _ _ hst') λnm hcl hno=>?_;apply Z;clear Z;refine Zby hg hcl hno ?_;have hturn:=turn i m₂ (hp₂.set it (.obj ob')) ob' hlt (hset _ _ _ _ hI) (Hp.ss ..);refine Zr4 (hturn _ v t.1 (hv.mono t.2)) λ_ sX mX hpX rX leX q=>?_;refine Zr2 (q sX rX) λfl sj af mj hpj rj lej hf q=>?_;have leAll:ImmLe s₀.heap sj.heap:=((le.trans t.2).trans leX).trans lej;cases af with
  | next=>cases hf;exact ⟨n - (i + 1),Zb5 hlt,i + 1,mj,hpj,ob',rfl,hlt,q.1,q.2,hst',rj,leAll⟩
  | cont=>cases hf;exact ⟨n - (i + 1),Zb5 hlt,i + 1,mj,hpj,ob',rfl,hlt,q.1,q.2,hst',rj,leAll⟩
  | brk=>cases hf;exact hR _ .next _ _ _ rj leAll rfl q
  | ret v=>obtain ⟨u,rfl,hu⟩:=hf;exact hR _ (.ret v) _ _ _ rj leAll ⟨u,rfl,hu⟩ q
 .have:i=n:=by (exact F20 0x876874208750 0x101110 rfl hi hlt)
  subst this;refine stop m₂ hp₂ s' ob hI hob hst r _ _ λh' t' he=>?_;refine hide λ_ Z=>?_;obtain ⟨r',le'⟩:=r.drop hob hL he t';apply Z;clear Z;exact wpAny_execs_nil (hR _ .next _ _ _ r' (le.trans le') rfl (fin _ _ hI))
theorem Zd3 {target iter:Expr}{body:List Stmt} {pos}{Q:QX} (hh:A.handled=none)
  (h:EV (model PW W0) A E B env iter m hp λo hp₁=>∃ a xs,o = .ref a/\Lst B hp₁ env.locals a xs/\∀ it,hp₁ it=none->it≠env.locals->∃ I:Nat->Loc->Hp->Prop,
   (∀ ob,I 0 m (hp₁.set it (.obj ob)))/\(∀ i m₂ hp₂ ob,I i m₂ hp₂->I i m₂ (hp₂.set it (.obj ob)))/\(∀ i m₂ hp₂,I i m₂ hp₂->Lst B hp₂ env.locals a xs) /\
   (∀ i x m₂ hp₂ ob,xs[i]?=some x->I i m₂ hp₂->hp₂ it=some (.obj ob)->ASG (model PW W0) A (λ_ _=>False) B env target x m₂ hp₂ λmX hpX=>EXs (model PW W0) A (λ_ _=>False) B env body mX hpX λfl mj hpj=>
    match fl with | .next | .cont=>I (i + 1) mj hpj/\hpj it=some (.obj ob) | .brk=>Q .next mj hpj | .ret v=>Q (.ret v) mj hpj) /\
   (∀ m₂ hp₂,I xs.length m₂ hp₂->Q .next m₂ (hp₂.del it)))
  (hs:∀ x,foldedSetIterable iter env x=pure x:=by intro _;rfl) :
  EX (model PW W0) A E B env (.For target iter body [] pos) m hp Q:=λs r=>by
 refine wpAny_For (h.use r λu s₁ o hp₁ r₁ le₁ hu x=>?_) hs;refine hide λ_ Z=>?_;obtain ⟨a,xs,rfl,hl,x⟩:=x;simp only[VR]at hu;subst hu;refine aa (r₁.lst hl) λvs hlst hvs=>?_;apply Z;clear Z;refine wpAny_pyIter_list hlst ?_;refine hide λ_ Z=>?_;have n:=r₁.newAt { cls:=.type "list_iterator",data:=.fields #[.ref a,.int 0 0] } (.obj { cls:=.type "list_iterator",data:=.fields #[.ref a,.int 0 0] }) ⟨Heap.get?_push_size _ rfl,λi=>by obtain ⟨_,_,_,e⟩:=i;cases e⟩;obtain ⟨I,h0,hset,hlI,turn,fin⟩:=x _ n.2.1 n.2.2.1;apply Z;clear Z;refine Zgb (n:=xs.length) (el:=λi=>xs.getD i .none) (st:=λi ob=>ob.cls = .type "list_iterator" /\ ob.data = .fields #[.ref a,.int i 0]) (I:=I) (Q:=Q) (s₀:=s) n.2.2.1 (λi ob x i'=>by obtain ⟨_,_,_,e⟩:=i';rw[x.2]at e;cases e)
  (λi m₂ hp₂ s' ob hi hI hob hst r' E' W k=>?_) (λm₂ hp₂ s' ob hI hob hst r' E' W k=>?_) hset (λi m₂ hp₂ ob hi hI hob=>turn i _ m₂ hp₂ ob (by simp[List.getD,List.getElem?_eq_getElem hi]) hI hob) fin
  (λfl af m' hp' s' r' le' hf q=>mkX (af:=af) r' le' hf q) (h0 _) (Hp.ss ..) ⟨rfl,rfl⟩ n.1 (le₁.trans n.2.2.2) (λ_ _ x=>⟨_,x.1,rfl⟩)
 .refine hide λ_ Z=>?_;refine aa (r'.lst (hlI _ _ _ hI)) λvs' hl' hvs'=>?_;refine aa (hvs'.get (i:=i) (x:=xs.getD i .none) (by simp[List.getD,List.getElem?_eq_getElem hi])) λv hv hxv=>?_;apply Z;clear Z;have hg:s'.heap.get? s₁.heap.objs.size=some ob:=(r'.at hob n.2.2.1).1;refine wpAny_pyNext_list_item (i:=i) ⟨ob,hg,hst.1,hst.2⟩ hl' (by simpa using hv) λh' hit' hs'=>?_;refine hide λ_ Z=>?_;refine ae hit' λob' hg' hc' hd'=>?_;apply Z;clear Z;exact k v h' s'.toks ob' hxv hg' ⟨hc',hd'⟩ hs'
 .refine hide λ_ Z=>?_;refine aa (r'.lst (hlI _ _ _ hI)) λvs' hl' hvs'=>?_;apply Z;clear Z;have hg:s'.heap.get? s₁.heap.objs.size=some ob:=(r'.at hob n.2.2.1).1;refine wpAny_pyNext_list_end hh (i:=xs.length) ⟨ob,hg,hst.1,hst.2⟩ hl' ?_ λh' he=>k h' s'.toks he;have e:vs'.size=xs.length:=by refine Array.length_toList▸?_;exact hvs'.length
  exact Array.getElem?_eq_none (by (exact F20 0x8758760 0x101 rfl e))
end
section
variable {K:Frag}
noncomputable abbrev Zj2 (PW:Program) (W0:World) (A:Around) (E:ET) (B:Shared) (env:Env) (m:Loc) (e:Expr) (rest:List Expr) (T:String) (Q:QV):AV->Hp->Prop:=λf hp₁=>f = .ty T/\EVS (model PW W0) A E B env (e :: rest) m hp₁ λvs hp₂=>CL (model PW W0) A E B env (.type T) m vs hp₂ Q
theorem Zge {func e:Expr}{rest:List Expr} {pos}{T:String}{Q:QV}
  (h:EV (model PW W0) A E B env func m hp (Zj2 PW W0 A E B env m e rest T Q))
  (hc:eval (.Call func (e :: rest) [] pos) env=(do callWith pos (<-eval func env) [] (backTo pos (starEach (e :: rest) env)) (backToKw pos (keywordEach [] env))):=by rfl)
  (he:starEach (e :: rest) env=(false,eval e env) :: starEach rest env:=by rfl) (hplain:(backTo pos (starEach rest env)).any (·.1)=false:=by rfl) :
  EV (model PW W0) A E B env (.Call func (e :: rest) [] pos) m hp Q:=λs r=>by
 refine Call_ (h.use r λu s₁ f hp₁ r₁ le₁ hu yq=>?_) hc;refine az yq λhf q=>?_;subst hf;simp only[VR]at hu;subst hu;refine PyProof.Rows.callWith_type1 (Zcr (q pos s₁ r₁) λvs sV avs hp₂ rV leV hv q=>?_) he hplain;exact useV (q sV vs rV hv) λv sX av hpX rX leX hv q=>mkV rX ((le₁.trans leV).trans leX) hv q
noncomputable def RangeOb (ob:Obj) (a b:Int):Prop:=∃ t u v,ob={ cls:=.type "range",dict:=none,data:=.fields #[.int a t,.int b u,.int 1 v],slots:=#[] }
theorem RangeOb.notImm {ob:Obj}{a b:Int} (h:RangeOb ob a b):¬ Imm ob:=by refine aT h λt u v V=>?_;subst V;rintro ⟨_,_,_,e⟩;cases e
theorem Zm9 {a b:Int}{Q:QV} (h:∀ r ob,hp r=none->r≠env.locals->RangeOb ob a b->Q (.ref r) (hp.set r (.obj ob))):CL (model PW W0) A E B env (.type "range") m [.int a,.int b] hp Q:=λs vs r hv=>by refine ad (Zbg hv) λv u V h1 h2=>?_;subst V;simp only[VR]at h1 h2;obtain ⟨t,rfl⟩:=h1;obtain ⟨t',rfl⟩:=h2;refine call_range_2 ?_;have ro:RangeOb { cls:=.type "range",dict:=none,data:=.fields #[.int a t,.int b t',.int 1 s.toks],slots:=#[] } a b:=⟨_,_,_,rfl⟩;have x:=r.newAt { cls:=.type "range",data:=.fields #[.int a t,.int b t',.int 1 s.toks] } (.obj _) ⟨Heap.get?_push_size _ rfl,ro.notImm⟩;exact mkV (av:=.ref _) (x.1.toks _) x.2.2.2 VR_ref (h _ _ x.2.1 x.2.2.1 ro)
theorem Zrp {target iter:Expr}{body:List Stmt} {pos}{Q:QX} (hh:A.handled=none)
  (h:EV (model PW W0) A E B env iter m hp λo hp₁=>∃ rg ob a b,o = .ref rg/\hp₁ rg=some (.obj ob)/\rg≠env.locals/\RangeOb ob a b/\-(2 ^ 62)<=a/\a < 2 ^ 62/\-(2 ^ 62)<=b/\b < 2 ^ 62/\∀ it,hp₁ it=none->it≠env.locals->∃ I:Nat->Loc->Hp->Prop,
   (∀ ob,I 0 m (hp₁.set it (.obj ob)))/\(∀ i m₂ hp₂ ob,I i m₂ hp₂->I i m₂ (hp₂.set it (.obj ob))) /\
   (∀ i m₂ hp₂ ob,i < (b - a).toNat->I i m₂ hp₂->hp₂ it=some (.obj ob)->ASG (model PW W0) A (λ_ _=>False) B env target (.int (a + i)) m₂ hp₂ λmX hpX=>EXs (model PW W0) A (λ_ _=>False) B env body mX hpX λfl mj hpj=>
    match fl with | .next | .cont=>I (i + 1) mj hpj/\hpj it=some (.obj ob) | .brk=>Q .next mj hpj | .ret v=>Q (.ret v) mj hpj) /\
   (∀ m₂ hp₂,I (b - a).toNat m₂ hp₂->Q .next m₂ (hp₂.del it)))
  (hs:∀ x,foldedSetIterable iter env x=pure x:=by intro _;rfl) :
  EX (model PW W0) A E B env (.For target iter body [] pos) m hp Q:=λs r=>by
 refine wpAny_For (h.use r λu s₁ o hp₁ r₁ le₁ hu x=>?_) hs;refine hide λ_ Z=>?_;obtain ⟨rg,ob,a,b,rfl,hrg,hrL,⟨t,u',v',rfl⟩,ha,ha',hb,hb',x⟩:=x;apply Z;clear Z;simp only[VR]at hu;subst hu;have hro:=(r₁.at hrg hrL).1;refine wpAny_pyIter_range hro (small_one ha ha' hb hb') ?_;refine hide λ_ Z=>?_;have n:=r₁.newAt { cls:=.type "range_iterator",data:=.fields #[rawInt a,rawInt (Builtin.Range.rangeSize a b 1),rawInt 1] } (.obj { cls:=.type "range_iterator",data:=.fields #[rawInt a,rawInt (Builtin.Range.rangeSize a b 1),rawInt 1] }) ⟨Heap.get?_push_size _ rfl,λi=>by obtain ⟨_,_,_,e⟩:=i;cases e⟩;obtain ⟨I,h0,hset,turn,fin⟩:=x _ n.2.1 n.2.2.1;apply Z;clear Z;have hsz:Builtin.Range.rangeSize a b 1=((b - a).toNat:Int):=by rw[rangeSize_one];split <;> (first | exact F02 0x73781987707813a 0x110011010011010 rfl ‹_› | exact F02 0x73049877207813a 0x1000100110001110 rfl ‹_›)
 refine Zgb (n:=(b - a).toNat) (el:=λi=>.int (a + i)) (st:=λi ob=>ob={ cls:=.type "range_iterator",dict:=none,data:=.fields #[rawInt (a + i),rawInt ((b - a).toNat - i),rawInt 1],slots:=#[] }) (I:=I) (Q:=Q) (s₀:=s) n.2.2.1 (λi ob x i'=>by obtain ⟨_,_,_,e⟩:=i';rw[x]at e;cases e) (λi m₂ hp₂ s' ob hi hI hob hst r' E' W k=>?_) (λm₂ hp₂ s' ob hI hob hst r' E' W k=>?_) hset turn fin
  (λfl af m' hp' s' r' le' hf q=>mkX (af:=af) r' le' hf q) (h0 _) (Hp.ss ..) (by refine hsz.symm▸?_;simp) n.1 (le₁.trans n.2.2.2) (λ_ _ x=>⟨"range_iterator",congrArg Obj.cls x,rfl⟩)
 .subst hst;have hg:s'.heap.get? s₁.heap.objs.size=some _:=(r'.at hob n.2.2.1).1;refine wpAny_pyNext_range_item (x:=a + i) (left:=(b - a).toNat - i) (step:=1) hg (by (exact F20 0x738310478740 0x11 rfl hi)) λh' hit' hs'=>?_
  exact k _ h' _ _ VR_int hit' (by
   have e1:a + (i:Int) + 1=a + ((i + 1:Nat):Int):=by push_cast;(exact F11 0x6730706737009 0x11 rfl)
   have e2:(((b - a).toNat:Int) - i - 1)=((b - a).toNat - ((i + 1:Nat):Int)):=by push_cast;(exact F20 0x683073168373119 0x11 rfl)
   exact e1▸e2▸rfl) hs'
 .subst hst;have hg:s'.heap.get? s₁.heap.objs.size=some _:=(r'.at hob n.2.2.1).1;exact wpAny_pyNext_range_end hh (x:=a + (b - a).toNat) (left:=(b - a).toNat - (b - a).toNat) (step:=1) hg (by (exact F10 0x4737318 0x1 rfl)) λh' he=>k h' s'.toks he
end
mutual
inductive RD (B:Shared) (hp:Hp) (L:Addr):AV->PyData->Prop
 | none:RD B hp L .none .none
 | bool (b):RD B hp L (.bool b) (.bool b)
 | int (i):RD B hp L (.int i) (.int i)
 | str (x):RD B hp L (.str x) (.str x)
 | tup {xs ds}:RDs B hp L xs ds->RD B hp L (.tup xs) (.tuple ds)
 | list {a xs ds}:Lst B hp L a xs->RDs B hp L xs ds->RD B hp L (.ref a) (.list ds)
inductive RDs (B:Shared) (hp:Hp) (L:Addr):List AV->List PyData->Prop
 | nil:RDs B hp L [] []
 | cons {x xs d ds}:RD B hp L x d->RDs B hp L xs ds->RDs B hp L (x :: xs) (d :: ds)
end
section
variable {K:Frag}
mutual
theorem RD.reads {s:Shared} (r:Rel B (hp.set env.locals (.ns m)) s) {x:AV}{d:PyData}{v:Value} (h:RD B hp env.locals x d) (hv:VR s.heap x v):∃ as,Reads s.heap v d as:=by
 cases h with
 | none=>simp only[VR]at hv;subst hv;exact ⟨_,.none⟩
 | bool b=>simp only[VR]at hv;subst hv;exact ⟨_,.bool b⟩
 | int i=>simp only[VR]at hv;obtain ⟨t,rfl⟩:=hv;exact ⟨_,.int i t⟩
 | str x=>simp only[VR]at hv;obtain ⟨t,rfl⟩:=hv;exact ⟨_,.str x t⟩
 | tup h=>
  refine hide λ_ Z=>?_;simp only[VR]at hv;obtain ⟨a,vs,rfl,⟨o,ho,hc,n,hd⟩,hvs⟩:=hv;obtain ⟨as,ra⟩:=RDs.reads r h hvs;apply Z;clear Z;exact ⟨_,.tuple ho hc hd ra⟩
 | list hl h=>
  refine hide λ_ Z=>?_;simp only[VR]at hv;subst hv;obtain ⟨vs,⟨o,ho,hc,n,hd⟩,hvs⟩:=r.lst hl;obtain ⟨as,ra⟩:=RDs.reads r h hvs;apply Z;clear Z;exact ⟨_,.list ho hc hd ra⟩
theorem RDs.reads {s:Shared} (r:Rel B (hp.set env.locals (.ns m)) s) {xs:List AV}{ds:List PyData}{vs:List Value} (h:RDs B hp env.locals xs ds) (hv:VRs s.heap xs vs):∃ as,ReadsAll s.heap vs ds as:=by
 cases h with
 | nil=>simp only[VRs]at hv;subst hv;exact ⟨_,.nil⟩
 | cons h1 h2=>
  refine hide λ_ Z=>?_;simp only[VRs]at hv;refine ad hv λv r' V e1 e2=>?_;clear hv;subst V;obtain ⟨as,ra⟩:=RD.reads r h1 e1;obtain ⟨bs,rb⟩:=RDs.reads r h2 e2;apply Z;clear Z;exact ⟨_,.cons ra rb⟩
end
theorem Zfi {a b:AV}{da db:PyData}{Q:QV} (ha:RD B hp env.locals a da) (hb:RD B hp env.locals b db) (sa:SeqAt.shaped da=true) (sb:SeqAt.shaped db=true) (hu:A.units + 64 < cLine) (h:Q (.bool (!PyData.eqv da db)) hp) :
  OP2 (model PW W0) A E B env (compareOp .NotEq) m a b hp Q:=λs u v r hu' hv=>by
 obtain ⟨as,ra⟩:=ha.reads r hu';obtain ⟨bs,rb⟩:=hb.reads r hv;exact SeqAt.compareNe_shaped ra rb sa sb hu ⟨_,hp,r,.refl _,VR_bool,h⟩
theorem Zeq {t b o:Expr} {pos}{Q:QV} (h:TST (model PW W0) A E B env t m hp λc hp'=>if c then EV (model PW W0) A E B env b m hp' Q else EV (model PW W0) A E B env o m hp' Q):EV (model PW W0) A E B env (.IfExp t b o pos) m hp Q:=λs r=>by
 refine wpAny_IfExp (useT (h s r) λc s' hp' r' le q=>?_);cases c
 .exact useV (q s' r') λv s'' av hp'' r'' le' hv q=>mkV r'' (le.trans le') hv q
 .exact useV (q s' r') λv s'' av hp'' r'' le' hv q=>mkV r'' (le.trans le') hv q
theorem Zrm {a b:Addr}{xs ys:List AV}{Q:QV} (ha:hp a=some (.list xs)) (hL:a≠env.locals) (hb:hp b=some (.list ys)) (hLb:b≠env.locals) (hsz:xs.length + ys.length<=sizeLine)
  (h:∀ c,hp c=none->c≠env.locals->Q (.ref c) (hp.set c (.list (xs ++ ys)))):OP2 (model PW W0) A E B env (binaryOp .Add) m (.ref a) (.ref b) hp Q:=λs u v r hu hv=>by
 refine hide λ_ Z=>?_;simp only[VR]at hu hv;subst hu;subst hv;refine am (r.at ha hL) λvs n hl hvs=>?_;refine am (r.at hb hLb) λus n' hl' hus=>?_;apply Z;clear Z;have e1:vs.size=xs.length:=by refine Array.length_toList▸?_;exact hvs.length
 have e2:us.size=ys.length:=by refine Array.length_toList▸?_;exact hus.length
 refine PySem.P.add_list hl hl' ?_ (by (exact fk [_,_,_,_,_] [] 0x9ba058b607a60987050 0x101011 rfl hsz e1 e2));have le:ImmLe s.heap (s.heap.push { cls:=.type "list",data:=.seq (vs ++ us) }):=ImmLe.keep λb o'' e=>Heap.get?_push_of_some _ e;have x:=r.newAt { cls:=.type "list",data:=.seq (vs ++ us) } (.list (xs ++ ys)) ⟨_,0,IsL.new _ _,by rw[Array.toList_append];exact (hvs.mono le).append (hus.mono le)⟩;exact mkV (av:=.ref _) x.1 x.2.2.2 VR_ref (h _ x.2.1 x.2.2.1)
noncomputable abbrev Zpc (env:Env) (Q:QV):AV->Hp->Prop:=λl hp₁=>∃ a xs v,l = .ref a/\hp₁ a=some (.list (xs ++ [v]))/\a≠env.locals/\xs.length < sizeLine/\Q v (hp₁.set a (.list xs))
theorem Zqd {o:Expr} {apos pos}{pl:Sem Bool}{Q:QV}
  (h:EV (model PW W0) A E B env o m hp (Zpc env Q))
  (hc:eval (.Call (.Attribute o (PySem.Str.ofString "pop") apos) [] [] pos) env=(do
   let ov <-eval o env
   standAt apos.atName
   let (f,first) <-holding [ov] (getMethod ov (PySem.Str.ofString "pop") pl)
   callWith pos f first (backTo pos (starEach [] env)) []):=by rfl) :
  EV (model PW W0) A E B env (.Call (.Attribute o (PySem.Str.ofString "pop") apos) [] [] pos) m hp Q:=λs r=>by
 refine MethodCall_ (pl:=pl) (h.use r λu s₁ l hp₁ r₁ le₁ hu x=>?_) hc;refine hide λ_ Z=>?_;refine aC x λa xs v V ha hL hsz q=>?_;subst V;apply Z;clear Z;simp only[VR]at hu;subst hu;refine Zek F.slot_list_pop F.type_list_pop r₁ ha hL ?_;refine hide λ_ Z=>?_;refine am (r₁.at ha hL) λus n hl hus=>?_;have e2:us.size=xs.length + 1:=by refine Array.length_toList▸hus.length▸?_;simp
 refine aa (hus.get (i:=xs.length) (x:=v) (by simp)) λy hy hvy=>?_;apply Z;clear Z;refine PySem.P.pop_list hl (by rw[e2];simpa using hy) ?_ (by (exact F30 0x8956709608740 0x1011 rfl hsz e2));have hs:Heap.SameBut a s₁.heap (s₁.heap.update a (Obj.mapSeq λxs=>xs.eraseIdxIfInBounds (us.size - 1))):=Heap.SameBut.update ..;have hl':=hl.update λxs=>xs.eraseIdxIfInBounds (us.size - 1);have e3:(us.eraseIdxIfInBounds (us.size - 1)).toList=us.toList.take xs.length:=by rw[Array.eraseIdxIfInBounds,dif_pos (by (exact F20 0x874690860671a 0x1100110010 rfl e2)),Array.toList_eraseIdx,List.eraseIdx_eq_take_drop_succ,e2,Nat.add_sub_cancel,List.drop_of_length_le (by dsimp only[Array.length_toList];(exact F20 0x68075680760 0x101 rfl e2)),List.append_nil]
 have t:=r₁.turn (a:=a) (Hp.snt hL ha) hs (.list xs) (λle=>⟨_,_,hl',by
  have:=(hus.mono le).take xs.length;rw[List.take_left' rfl]at this;rw[e3]
  exact this⟩) s₁.toks
 rw[Hp.sc _ _ _ (Ne.symm hL)]at t;exact mkV t.1 (le₁.trans t.2) (hvy.mono t.2) q
end
theorem Zcf {a b:String} (h:PySem.Str.ofString a=PySem.Str.ofString b):a=b:=by
 rw[PySem.Str.ofString_eq_byList]at h;unfold PySem.Str.ofStringByList at h;have h1:(a.toList.map Char.toNat).toArray=(b.toList.map Char.toNat).toArray:=PySem.Str.mk.inj h;have h2:a.toList.map Char.toNat=b.toList.map Char.toNat:=by simpa using h1
 apply String.toList_injective;have inj:∀ {x y:List Char},x.map Char.toNat=y.map Char.toNat->x=y:=by
  intro x
  induction x with
  | nil=>intro y h;cases y with | nil=>rfl | cons _ _=>nomatch h
  | cons c x ih=>
   intro y h;cases y with
   | nil=>nomatch h
   | cons d y=>
    simp only[List.map_cons,List.cons.injEq]at h;rw[ih h.2];congr 1;exact Char.toNat_inj.mp h.1
 exact inj h2
theorem ug (m:Loc) (a b:String) (v:AV):upd m (PySem.Str.ofString a) v (PySem.Str.ofString b)=if b=a then some v else m (PySem.Str.ofString b):=by
 unfold upd;by_cases h:b=a
 .simp [h]
 .have:PySem.Str.ofString b≠PySem.Str.ofString a:=λe=>h (Zcf e);simp[h,this]
theorem upT {m:Loc}{a:String}{v:AV}:upd m (S a) v (S a)=some v:=by (rw[ug];exact (if_pos rfl))
theorem upN {m:Loc}{a b:String}{v:AV}{r:Option AV} (h:b≠a) (g:m (S b)=r):upd m (S a) v (S b)=r:=by (rw[ug,if_neg h];exact g)
noncomputable def Hp.Le (hp hp':Hp):Prop:=∀ a o,hp a=some o->hp' a=some o
theorem Hp.Le.refl (hp:Hp):Hp.Le hp hp:=λ_ _ e=>e
theorem Hp.Le.trans {a b c:Hp} (x:Hp.Le a b) (y:Hp.Le b c):Hp.Le a c:=λp o e=>y p o (x p o e)
theorem Hp.Le.set {hp hp':Hp} (x:Hp.Le hp hp') {a:Addr} (h:hp a=none) (o:AO):Hp.Le hp (hp'.set a o):=λb ob e=>by
 have:b≠a:=λe'=>by rw[e',h]at e;cases e
 exact Hp.snt this (x b ob e)
theorem Hp.Le.del {hp hp':Hp} (x:Hp.Le hp hp') {a:Addr} (h:hp a=none):Hp.Le hp (hp'.del a):=λb ob e=>by
 have:b≠a:=λe'=>by rw[e',h]at e;cases e
 refine (if_neg this).trans ?_;exact x b ob e
theorem Hp.Le.none {hp hp':Hp} (x:Hp.Le hp hp') {a:Addr} (h:hp' a=none):hp a=none:=by
 cases e:hp a with
 | none=>rfl
 | some o=>rw[x a o e]at h;cases h
theorem Hp.del_ne (hp:Hp) {a b:Addr} (h:b≠a):(hp.del a) b=hp b:=by exact if_neg h
theorem Hp.ne_of {hp:Hp}{a b:Addr}{o:AO} (h:hp a=some o) (h':hp b=none):a≠b:=λe=>by rw[e,h']at h;cases h
theorem Lst.le {B:Shared}{hp hp':Hp}{L a:Addr}{xs:List AV} (x:Lst B hp L a xs) (le:Hp.Le hp hp'):Lst B hp' L a xs:=by
 rcases x with ⟨h,hL⟩ | h
 .exact .inl ⟨le _ _ h,hL⟩
 .exact .inr h
theorem Lst.call {B:Shared}{hp:Hp}{L L' a:Addr}{xs:List AV}{m:Loc} (x:Lst B hp L a xs) (hL':hp L'=none):Lst B (hp.set L (.ns m)) L' a xs:=by
 rcases x with ⟨h,hL⟩ | h
 .exact .inl ⟨Hp.snt hL h,λe=>by rw[e,hL']at h;cases h⟩
 .exact .inr h
section
variable {K:Frag}
noncomputable abbrev Zpd (Q:QV):AV->Hp->Prop:=λv hp'=>∃ i,v = .int i/\Q (.int (-i)) hp'
theorem Zds {x:Expr} {pos}{Q:QV} (h:EV (model PW W0) A E B env x m hp (Zpd Q)):EV (model PW W0) A E B env (.UnaryOp .USub x pos) m hp Q:=λs r=>by refine wpAny_UnaryOp (h.use r λu s₁ v hp₁ r₁ le₁ hu yq=>?_);refine aa yq λi e q=>?_;subst e;simp only[VR]at hu;obtain ⟨t,rfl⟩:=hu;exact PySem.P.neg_int ⟨_,hp₁,r₁.toks _,le₁,VR_int,q⟩
end
section
variable {M:Model}{A:Around}{E:ET}{B:Shared}{env:Env}{m:Loc}{hp:Hp}{K:Frag}
theorem EV.mono {e:Expr}{Q Q':QV} (h:EV M A E B env e m hp Q) (k:∀ v hp',Q v hp'->Q' v hp'):EV M A E B env e m hp Q':=λs r=>
 useV (h s r) λ_ _ av hp' r' le hv q=>⟨av,hp',r',le,hv,k _ _ q⟩
theorem EX.mono {st:Stmt}{Q Q':QX} (h:EX M A E B env st m hp Q) (k:∀ f m' hp',Q f m' hp'->Q' f m' hp'):EX M A E B env st m hp Q':=λs r=>
 useX (h s r) λ_ _ af m' hp' r' le hv q=>⟨af,m',hp',r',le,hv,k _ _ _ q⟩
theorem EXs.mono {st:List Stmt}{Q Q':QX} (h:EXs M A E B env st m hp Q) (k:∀ f m' hp',Q f m' hp'->Q' f m' hp'):EXs M A E B env st m hp Q':=λs r=>
 useX (h s r) λ_ _ af m' hp' r' le hv q=>⟨af,m',hp',r',le,hv,k _ _ _ q⟩
theorem Zmz {st:Stmt}{rest:List Stmt}{Q:QX} (Mid:Loc->Hp->Prop) (h1:EX M A E B env st m hp λf m' hp'=>f = .next/\Mid m' hp') (h2:∀ m' hp',Mid m' hp'->EXs M A E B env rest m' hp' Q) :
  EXs M A E B env (st :: rest) m hp Q:=Zac (h1.mono λf m' hp' ⟨e,x⟩=>by subst e;exact h2 m' hp' x)
end
theorem sz {n:Nat} (h:Nat.ble n 1000=true):n<=sizeLine:=by have:=sizeLine_eq;have:=Nat.le_of_ble_eq_true h;(exact Nat.le_trans ‹_› (by decide))
theorem sz' {n:Nat} (h:n<=5000):n<=sizeLine:=by have:=sizeLine_eq;(exact Nat.le_trans ‹_› (by decide))
section
variable {K:Frag}
structure Ins (hp:Hp) (L x dx C:Addr) (ma:Loc):Prop where
 ob:hp x=some (.obj (instObj C dx))
 at_:hp dx=some (.atr ma)
 xL:x≠L
 dL:dx≠L
theorem Ins.le {hp':Hp}{L x dx C:Addr}{ma:Loc} (I:Ins hp L x dx C ma) (le:Hp.Le hp hp'):Ins hp' L x dx C ma:=⟨le _ _ I.ob,le _ _ I.at_,I.xL,I.dL⟩
theorem Ins.xd {L x dx C:Addr}{ma:Loc} (I:Ins hp L x dx C ma):x≠dx:=λe=>by have:=I.ob;rw[e,I.at_]at this;cases this
theorem Zk8 {o:Obj}{es:Array DictEntry}{ep:Nat}{mv:PySem.Str->Option Value} (hd:o.data = .dict es ep) (hk:StrKeys es) (hm:∀ name,nsFind es name=mv name) (name:PySem.Str):lookIn name o=some (mv name):=by
 unfold lookIn;refine hd▸(hm name)▸?_;delta nsFind findBy;refine (Array.find?_toList)▸?_;dsimp only;cases h:es.toList.find? (λe=>e.key.isStr name) with
 | some en=>rfl
 | none=>
  have:es.toList.any (·.refKey)=false:=by refine List.any_eq_false.2 ?_;intro en hen;refine aU (hk en (by simpa using hen)) λn t hn=>?_;unfold DictEntry.refKey;refine hn▸?_;nofun
  exact this▸rfl
theorem Rel.ins {s:Shared} (r:Rel B (hp.set env.locals (.ns m)) s) {x dx C:Addr}{ma:Loc} (I:Ins hp env.locals x dx C ma) :
  ∃ od mv,InstAt s.heap x (instObj C dx) C (some od)/\s.heap.Ns1 dx mv/\LocR s.heap ma mv/\Within mv attrNames/\∀ name,lookIn name od=some (mv name):=by
 refine hide λ_ Z=>?_;obtain ⟨h1,_⟩:=r.at I.ob I.xL;refine ae (r.at I.at_ I.dL) λmv hn hm hw=>?_;have hn':=hn;obtain ⟨o,es,ep,ho,hd,hk,_,hf⟩:=hn';apply Z;clear Z;exact ⟨o,mv,⟨h1,rfl,rfl,ho⟩,hn,hm,hw,Zk8 hd hk hf⟩
structure Cls (K:Frag) (C:Addr):Prop where
 ga:findIn K (.ref C) "__getattribute__" = some (some (.builtin "object.__getattribute__"))
 gk:findIn K (.ref C) "__getattr__" = some none
 hd:(clsIn K C).any (·.hasDict)=true
 sa:findIn K (.ref C) "__setattr__" = some (some (.builtin "object.__setattr__"))
 po:plainOver K C=true
theorem Zmp {h:Heap}{a:AV}{v:Value} (hv:VR h a v) (hb:∀ n,a≠.bi n):handedIn v=true:=by
 cases a with
 | bi n=>exact absurd rfl (hb n)
 | none=>simp only[VR]at hv;subst hv;rfl
 | bool _=>simp only[VR]at hv;subst hv;rfl
 | int _=>simp only[VR]at hv;obtain ⟨_,rfl⟩:=hv;rfl
 | str _=>simp only[VR]at hv;obtain ⟨_,rfl⟩:=hv;rfl
 | flt _=>simp only[VR]at hv;obtain ⟨_,rfl⟩:=hv;rfl
 | ref _=>simp only[VR]at hv;subst hv;rfl
 | ty _=>simp only[VR]at hv;subst hv;rfl
 | tup _=>simp only[VR]at hv;obtain ⟨_,_,rfl,_⟩:=hv;rfl
 | mat _=>simp only[VR]at hv;obtain ⟨_,_,rfl,_⟩:=hv;rfl
noncomputable abbrev Zmw (env:Env) (name:PySem.Str) (C:Addr) (Q:QV):AV->Hp->Prop:=λv hp₁=>∃ x dx ma u,v = .ref x/\Ins hp₁ env.locals x dx C ma/\ma name=some u/\(∀ n,u≠.bi n)/\Q u hp₁
theorem Zrt {o:Expr}{name:PySem.Str} {pos}{C:Addr}{Q:QV} (G:Gnd K B) (P:Cls K C) (hno:findIn K (.ref C) name=some none)
  (h:EV (model PW W0) A E B env o m hp (Zmw env name C Q))
  (he:eval (.Attribute o name pos) env=(do
   let ov <-eval o env
   standAt pos.atName
   let r <-holding [ov] (getAttr ov name true)
   letTemporaryGo o ov r
   pure r):=by with_unfolding_all rfl) (ht:∀ ov r,letTemporaryGo o ov r=pure ():=by intro _ _;rfl) :
  EV (model PW W0) A E B env (.Attribute o name pos) m hp Q:=λs r=>by
 rw[he];refine wB (h.use r λv s₁ av hp₁ r₁ le₁ hv x=>wB (wpAny_standAt (wB (wpAny_holding ?_))));refine hide λ_ Z=>?_;obtain ⟨x,dx,ma,u,rfl,I,hu,hb,q⟩:=x;simp only[VR]at hv;subst hv;refine aE (r₁.ins I) λod mv IA hn hm hw hl=>?_;refine aa (hm.1 name u hu) λuv huv hvr=>?_;refine aa (any_some P.hd) λcd hc hd=>?_;apply Z;clear Z;have hf:findObj K C (some od) name=some (.value uv):=by unfold findObj;rw[hc,Option.bind_some,hno];simp only[Option.bind_some,W.ownOf,hd,if_true,hl,huv]
 refine get_value (G.X.keeps r₁.keep) IA P.ga hf (Zmp hvr hb) ?_;refine wB ?_;rw[ht];exact wP (wP (mkV (r₁.toks _) le₁ hvr q))
noncomputable abbrev Zmv (PW:Program) (W0:World) (A:Around) (E:ET) (B:Shared) (env:Env) (m:Loc) (e:Expr) (name:PySem.Str) (rest:List Expr) (C:Addr) (f:Addr) (Q:QV):AV->Hp->Prop:=λv hp₁=>∃ x dx ma,v = .ref x/\Ins hp₁ env.locals x dx C ma/\ma name=none/\EVS (model PW W0) A E B env (e :: rest) m hp₁ λvs hp₂=>CL (model PW W0) A E B env (.ref f) m (.ref x :: vs) hp₂ Q
theorem Zck {o e:Expr}{name:PySem.Str}{rest:List Expr} {apos pos}{pl:Sem Bool}{C f:Addr}{Q:QV} (G:Gnd K B) (P:Cls K C) (hf:findIn K (.ref C) name=some (some (.ref f))) (ht:typeIn K (.ref f)=some (.type "function")) (hk:keepIn K (.ref f)=true)
  (h:EV (model PW W0) A E B env o m hp (Zmv PW W0 A E B env m e name rest C f Q))
  (hc:eval (.Call (.Attribute o name apos) (e :: rest) [] pos) env=(do
   let ov <-eval o env
   standAt apos.atName
   let (f,first) <-holding [ov] (getMethod ov name pl)
   callWith pos f first (backTo pos (starEach (e :: rest) env)) []):=by rfl)
  (he:starEach (e :: rest) env=(false,eval e env) :: starEach rest env:=by rfl) (hplain:(backTo pos (starEach rest env)).any (·.1)=false:=by rfl) :
  EV (model PW W0) A E B env (.Call (.Attribute o name apos) (e :: rest) [] pos) m hp Q:=λs r=>by
 refine MethodCall_ (pl:=pl) (h.use r λu s₁ l hp₁ r₁ le₁ hu x=>?_) hc;refine hide λ_ Z=>?_;obtain ⟨x,dx,ma,rfl,I,hno,q⟩:=x;simp only[VR]at hu;subst hu;refine aE (r₁.ins I) λod mv IA hn hm hw hl=>?_;apply Z;clear Z;refine method_fn (G.X.keeps r₁.keep) IA P.ga P.gk hf ht (by unfold shadowIn;simp[hl,hm.2 name hno]) ?_;refine callWith_K (K:=K) G.X hk (Zcr (q pos s₁ r₁) λvs sV avs hp₂ rV leV hv q=>?_) he hplain;refine ⟨G.X.keeps rV.keep,?_⟩;refine useV (q sV (.ref x :: vs) rV (by simp only[VRs];exact ⟨_,_,rfl,VR_ref,hv⟩)) λv sX av hpX rX leX hv q=>mkV rX ((le₁.trans leV).trans leX) hv q
noncomputable abbrev Zjy (PW:Program) (W0:World) (A:Around) (E:ET) (B:Shared) (env:Env) (m:Loc) (name:PySem.Str) (C:Addr) (f:Addr) (Q:QV):AV->Hp->Prop:=λv hp₁=>∃ x dx ma,v = .ref x/\Ins hp₁ env.locals x dx C ma/\ma name=none/\CL (model PW W0) A E B env (.ref f) m [.ref x] hp₁ Q
theorem Zdt {o:Expr}{name:PySem.Str} {apos pos}{pl:Sem Bool}{C f:Addr}{Q:QV} (G:Gnd K B) (P:Cls K C) (hf:findIn K (.ref C) name=some (some (.ref f))) (ht:typeIn K (.ref f)=some (.type "function")) (hk:keepIn K (.ref f)=true)
  (h:EV (model PW W0) A E B env o m hp (Zjy PW W0 A E B env m name C f Q))
  (hc:eval (.Call (.Attribute o name apos) [] [] pos) env=(do
   let ov <-eval o env
   standAt apos.atName
   let (f,first) <-holding [ov] (getMethod ov name pl)
   callWith pos f first (backTo pos (starEach [] env)) []):=by rfl) :
  EV (model PW W0) A E B env (.Call (.Attribute o name apos) [] [] pos) m hp Q:=λs r=>by
 refine MethodCall_ (pl:=pl) (h.use r λu s₁ l hp₁ r₁ le₁ hu x=>?_) hc;refine hide λ_ Z=>?_;obtain ⟨x,dx,ma,rfl,I,hno,q⟩:=x;simp only[VR]at hu;subst hu;refine aE (r₁.ins I) λod mv IA hn hm hw hl=>?_;apply Z;clear Z;refine method_fn (G.X.keeps r₁.keep) IA P.ga P.gk hf ht (by unfold shadowIn;simp[hl,hm.2 name hno]) ?_;refine callWith_K0 (K:=K) (G.X.keeps r₁.keep) hk ?_;refine useV (q s₁ [.ref x] r₁ (VRs.one VR_ref)) λv sX av hpX rX leX hv q=>mkV rX (le₁.trans leX) hv q
noncomputable abbrev Zj8 (env:Env) (m:Loc) (name:PySem.Str) (C:Addr) (u:AV) (Q:Loc->Hp->Prop):AV->Hp->Prop:=λv hp₁=>∃ x dx ma,v = .ref x/\Ins hp₁ env.locals x dx C ma/\Q m (hp₁.set dx (.atr (upd ma name u)))
theorem Zpu {o:Expr}{name:PySem.Str} {pos}{C:Addr}{u:AV}{Q:Loc->Hp->Prop} (G:Gnd K B) (P:Cls K C) (ht:takerIn K C name=some none) (ha:name ∈ attrNames)
  (h:EV (model PW W0) A E B env o m hp (Zj8 env m name C u Q)) :
  ASG (model PW W0) A E B env (.Attribute o name pos) u m hp Q:=λs v r hv=>by
 dsimp only[assign_Attribute];refine wB (wpAny_holding (h.use r λov s₁ av hp₁ r₁ le₁ hov x=>wB (wpAny_standAt (wB (wpAny_holding ?_)))));refine hide λ_ Z=>?_;obtain ⟨x,dx,ma,rfl,I,q⟩:=x;simp only[VR]at hov;subst hov;refine aE (r₁.ins I) λod mv IA hn hm hw hl=>?_;apply Z;clear Z;have hv₁:=hv.mono le₁;have X:=G.X.keeps r₁.keep;refine set_plain X IA P.sa (osa_open (s:={ s₁ with toks:=s₁.toks + 1 }) X IA P.po ht λb=>?_);refine hide λ_ Z=>?_;refine aa (any_some P.hd) λcd hc hd=>?_;apply Z;clear Z;refine wB (wP (wB (wB (wpAny_loadPart IA.at_ (wB (looks_clsIn X hc _ _ _ _ (λ_ _ e=>e) ?_))))));refine hd.symm▸?_;refine wP (a:=some dx) (wB (wP (wB (wpAny_nsSet1 (s:={ s₁ with toks:=s₁.toks + 1 }) hn λh' hn' hs=>?_))));refine hide λ_ Z=>?_;have hw':Within (λx=>if x=name then some v else mv x) attrNames:=λy hy=>by
  by_cases e:y=name
  .rw [e];exact ha
  .exact hw y (by simpa [e] using hy)
 refine aH (hn'.count hw') λoD esD epD hoD hdD hcD=>?_;apply Z;clear Z;refine wB (wpAny_lookBehind hoD (by rw[hdD];exact pastItsLine_dict (Nat.le_trans hcD (by decide))) ?_);refine wP ?_;have t:=r₁.turn (a:=dx) (Hp.snt I.dL I.at_) hs (.atr (upd ma name u)) (λle=>⟨_,hn',LocR.upd (hm.mono le) (hv₁.mono le),hw'⟩) (s₁.toks + 1 + 1);rw[Hp.sc _ _ _ (Ne.symm I.dL)]at t;exact wpAny_release ⟨m,_,t.1,le₁.trans t.2,q⟩
end
section
variable {K:Frag}
theorem Zru {C fI:Addr}{avs:List AV}{Q:QV} (G:Gnd K B) (hm:makesIn K C=true) (hi:findIn K (.ref C) "__init__" = some (some (.ref fI))) (hf:typeIn K (.ref fI)=some (.type "function"))
  (h:∀ x dx vs,hp x=none->hp dx=none->x≠dx->x≠env.locals->dx≠env.locals ->
   CD (model PW W0) (A.under (.builtin "type.__call__" ⟨.ref C :: vs,[]⟩)) E B env (.ref fI) m (.ref x :: avs) ((hp.set dx (.atr λ_=>none)).set x (.obj (instObj C dx))) λv hp'=>v = .none/\Q (.ref x) hp') :
  CL (model PW W0) A E B env (.ref C) m avs hp Q:=λs vs r hv=>by
 refine wpAny_call ?_;refine hide λ_ Z=>?_;have n1:=r.newAt emptyDict (.atr λ_=>none) ⟨λ_=>none,Heap.Ns1.of_empty (Heap.Ns.new s.heap (.type "dict")),⟨λx v e=>by (nomatch e),λx _=>rfl⟩,λy hy=>absurd rfl hy⟩;have n2:=Rel.newAt n1.1 (instObj C s.heap.objs.size) (.obj (instObj C s.heap.objs.size)) ⟨Heap.get?_push_size _ rfl,λi=>by obtain ⟨_,xs,n,e⟩:=i;cases e⟩;have hsz:(s.heap.push emptyDict).objs.size=s.heap.objs.size + 1:=Heap.size_push ..;simp only[hsz]at n2;have hx0:hp (s.heap.objs.size + 1)=none:=by have:=n2.2.1;rw[Hp.sn _ _ (Nat.succ_ne_self _)]at this;exact this
 have hh:=h (s.heap.objs.size + 1) s.heap.objs.size vs hx0 n1.2.1 (Nat.succ_ne_self _) n2.2.2.1 n1.2.2.1;obtain ⟨heap,g,d,t,os⟩:=s;apply Z;clear Z;refine make_core (makes_of (G.X.keeps r.keep) hm) (looks_findIn (G.X.keeps r.keep) hi) (λself=>bind_fn (G.X.keeps r.keep) self hf) (.inl rfl) ?_;refine codeAny_mono (hh _ (.ref (heap.objs.size + 1) :: vs) n2.1 (by simp only[VRs];exact ⟨_,_,rfl,VR_ref,hv.mono (n1.2.2.2.trans n2.2.2.2)⟩)) λr s' z=>?_;rcases r with e | (v | _ | _ | _) <;> first | exact z | exact z.elim | skip
 refine hide λ_ Z=>?_;refine aq z λav hp' r' le' hv' V=>?_;refine az V λah q=>?_;clear V;subst ah;apply Z;clear Z;simp only[VR]at hv';subst hv';exact ⟨rfl,.ref (heap.objs.size + 1),hp',r',(n1.2.2.2.trans n2.2.2.2).trans le',VR_ref,q⟩
noncomputable abbrev Zj3 (PW:Program) (W0:World) (A:Around) (E:ET) (B:Shared) (env:Env) (m:Loc) (e:Expr) (rest:List Expr) (f:Addr) (Q:QV):AV->Hp->Prop:=λv hp₁=>v = .ref f/\EVS (model PW W0) A E B env (e :: rest) m hp₁ λvs hp₂=>CL (model PW W0) A E B env (.ref f) m vs hp₂ Q
theorem Zgf {func e:Expr}{rest:List Expr} {pos}{f:Addr}{Q:QV} (G:Gnd K B) (hk:keepIn K (.ref f)=true)
  (h:EV (model PW W0) A E B env func m hp (Zj3 PW W0 A E B env m e rest f Q))
  (hc:eval (.Call func (e :: rest) [] pos) env=(do callWith pos (<-eval func env) [] (backTo pos (starEach (e :: rest) env)) (backToKw pos (keywordEach [] env))):=by rfl)
  (he:starEach (e :: rest) env=(false,eval e env) :: starEach rest env:=by rfl) (hplain:(backTo pos (starEach rest env)).any (·.1)=false:=by rfl) :
  EV (model PW W0) A E B env (.Call func (e :: rest) [] pos) m hp Q:=λs r=>by
 refine Call_ (h.use r λu s₁ v hp₁ r₁ le₁ hu yq=>?_) hc;refine az yq λhf q=>?_;subst hf;simp only[VR]at hu;subst hu;refine callWith_K (K:=K) G.X hk (Zcr (q pos s₁ r₁) λvs sV avs hp₂ rV leV hv q=>⟨G.X.keeps rV.keep,?_⟩) he hplain;exact useV (q sV vs rV hv) λv sX av hpX rX leX hv q=>mkV rX ((le₁.trans leV).trans leX) hv q
theorem Zo9 {Q:Bool->Hp->Prop} (h:Q false hp):TRU (model PW W0) A E B env m .none hp Q:=λs u r hu=>by simp only[VR]at hu;subst hu;exact PyProof.Rows.truthy_none ⟨hp,r,.refl _,h⟩
theorem Rel.grown {s:Shared} (r:Rel B (hp.set env.locals (.ns m)) s) {h':Heap} (k:∀ b o,s.heap.get? b=some o->h'.get? b=some o) (t:Nat):Rel B (hp.set env.locals (.ns m)) { s with heap:=h',toks:=t }/\ImmLe s.heap h':=by refine ⟨⟨λb o e=>k b o (r.keep b o e),λa o e=>⟨(r.objs a o e).1,(r.objs a o e).2.here (ImmLe.keep k) λo' e'=>k _ _ e'⟩,r.os,r.bare,?_⟩,ImmLe.keep k⟩;obtain ⟨h1,h2⟩:=r.objs env.locals _ (Hp.ss ..);obtain ⟨ob,hob⟩:=h2.ex;exact Nat.le_trans h1 (Nat.le_of_lt (Heap.lt_size (k _ _ hob)))
end
noncomputable def RET (L:Addr) (env:Env) (m:Loc) (Q:QV):AF->Loc->Hp->Prop:=λfl _ hp'=>∃ hp₂:Hp,Hp.Le (hp₂.set env.locals (.ns m)) hp'/\hp₂ L=none/\Q (Zfq fl) hp₂
theorem Ins.call {hp:Hp}{L L' x dx C:Addr}{ma m:Loc} (I:Ins hp L x dx C ma) (h:hp L'=none):Ins (hp.set L (.ns m)) L' x dx C ma:=
 ⟨Hp.snt I.xL I.ob,Hp.snt I.dL I.at_,Hp.ne_of I.ob h,Hp.ne_of I.at_ h⟩
theorem Ins.put {hp:Hp}{L x dx C:Addr}{ma ma':Loc} (I:Ins hp L x dx C ma):Ins (hp.set dx (.atr ma')) L x dx C ma':=
 ⟨Hp.snt I.xd I.ob,Hp.ss ..,I.xL,I.dL⟩
theorem Lst.put {B:Shared}{hp:Hp}{L a b:Addr}{xs:List AV}{o:AO} (x:Lst B hp L a xs) (h:∀ ys,hp b≠some (.list ys)):Lst B (hp.set b o) L a xs:=by
 rcases x with ⟨e,hL⟩ | e
 .exact .inl ⟨Hp.snt (λe'=>by subst e';exact h _ e) e,hL⟩
 .exact .inr e
section
variable {K:Frag}
theorem Zdd {f:Addr}{fd:FuncData}{body:List Stmt}{avs:List AV}{bs:List (PySem.Str × AV)}{Q:QV} (G:Gnd K B) (ho:K.lookup f=some ⟨.type "function",none,.func fd,#[]⟩) (hcd:codeIn K fd.code fd.qualname=true)
  (hbody:fd.body = .stmts body) (hroom:A.depth < recursionLimit)
  (hbind:∀ s vs,VRs s.heap avs vs->(∀ b o,B.heap.get? b=some o->s.heap.get? b=some o)->∃ us:List (PySem.Str × Value),BindsTo s fd ⟨vs,[]⟩ us/\us.reverse.map (·.1)=bs.map (·.1)/\VRs s.heap (bs.map (·.2)) (us.reverse.map (·.2)))
  (hloc:bs.all (λx=>fd.scope.names.lookup x.1 == some .local)=true) (hcell:∀ x ∈ fd.scope.names,x.2≠.cell)
  (h:∀ L,hp L=none->L≠env.locals->EXs (model PW W0) (A.deeper (callEnv fd L f)) (λ_ _=>False) B (callEnv fd L f) body (Zaq bs) (hp.set env.locals (.ns m)) (RET L env m Q))
  (hco:fd.scope.isCoroutine=false:=by rfl) (hgen:fd.scope.isGenerator=false:=by rfl) (hk:fd.scope.kind = .function:=by rfl) :
  CD (model PW W0) A E B env (.ref f) m avs hp Q:=
 Zt0 G ho rfl hcd hbody hroom hbind hloc hcell (λL hL hLe=>(h L hL hLe).mono λfl m' hp' ⟨hp₂,le,hn,q⟩=>⟨hp₂,λa o e=>⟨le a o e,λe'=>by subst e';rw[Hp.sn _ _ hLe,hn]at e;cases e⟩,q⟩) hco hgen hk
noncomputable abbrev Zhh (PW:Program) (W0:World) (A:Around) (E:ET) (B:Shared) (env:Env) (m:Loc) (o:Expr) (name:PySem.Str) (Q:QX) (pos':Pos):AV->Hp->Prop:=λv hp₁=>ASG (model PW W0) A E B env (.Attribute o name pos') v m hp₁ λm₂ hp₂=>Q .next m₂ hp₂
theorem Zb4 {o value:Expr}{name:PySem.Str} {pos' pos}{Q:QX}
  (h:EV (model PW W0) A E B env value m hp (Zhh PW W0 A E B env m o name Q pos'))
  (hs:swapsWith value (some (.Attribute o name pos')) pos.line env=pure false:=by rfl):EX (model PW W0) A E B env (.Assign [.Attribute o name pos'] value pos) m hp Q:=λs r=>by
 rw[plainObj_exec_Assign_Attribute o name pos' value pos hs];refine wB (wpAny_standAt (wB (h.use r λu s₁ v hp₁ r₁ le₁ hu q=>wB ?_)));exact useA (q s₁ u r₁ hu) λ_ sV m₂ hp₂ rV leV q=>wP (mkX (af:=.next) rV (le₁.trans leV) rfl q)
theorem Zcj {x:PySem.Str} {k p pos}{Q:QX} (h:Q .next m hp) (hi:interactive env=false:=by rfl) (hs:swapsWith (.Constant (.str x) k p) none pos.line env=pure false:=by rfl) :
  EX (model PW W0) A E B env (.Expr (.Constant (.str x) k p) pos) m hp Q:=Za0 (Zbw ⟨by nofun,by nofun,by nofun,h⟩) hi hs
theorem Zsb {L:Addr}{Q:QV}{fl:AF}{m':Loc} {hp₂ hp':Hp} (le:Hp.Le (hp₂.set env.locals (.ns m)) hp') (hn:hp₂ L=none) (q:Q (Zfq fl) hp₂):RET L env m Q fl m' hp':=⟨hp₂,le,hn,q⟩
theorem Zc3 {L:Addr}{Q:QV}{fl:AF}{m':Loc} (hL:hp L=none) (q:Q (Zfq fl) hp):RET L env m Q fl m' (hp.set env.locals (.ns m)):=⟨hp,.refl _,hL,q⟩
theorem Zqp {L dx:Addr}{o:AO}{Q:QV}{fl:AF}{m':Loc} (hL:hp L=none) (hd:dx≠env.locals) (hdL:dx≠L) (q:Q (Zfq fl) (hp.set dx o)):RET L env m Q fl m' ((hp.set env.locals (.ns m)).set dx o):=
 ⟨hp.set dx o,by rw[Hp.sc _ _ _ hd];exact .refl _,Hp.snt (Ne.symm hdL) hL,q⟩
end
section
variable {K:Frag}
theorem ASG.mono {M:Model}{t:Expr}{x:AV}{Q Q':Loc->Hp->Prop} (h:ASG M A E B env t x m hp Q) (k:∀ m' hp',Q m' hp'->Q' m' hp'):ASG M A E B env t x m hp Q':=λs v r hv=>
 useA (h s v r hv) λ_ _ m' hp' r' le q=>mkA r' le (k _ _ q)
theorem Zri {x:PySem.Str}{Q:Bool->Hp->Prop} (hx:x.length < 1000) (h:Q (x.length != 0) hp):TRU (model PW W0) A E B env m (.str x) hp Q:=λs u r hu=>by
 simp only[VR]at hu;obtain ⟨t,rfl⟩:=hu;refine PySem.P.truthy_str (by lia) ⟨hp,r.toks _,.refl _,?_⟩;have:((x.length:Int) != 0)=(x.length != 0):=by
  generalize x.length=n;cases n with
  | zero=>rfl
  | succ n=>rfl
 rw[this];exact h
end
noncomputable def GR (B:Shared) (h0:Heap) (F:Hp->Prop):GenEnd:=λ_ _ r s=>r = .ok (.ret .none)/\∃ hp,Rel B hp s/\ImmLe h0 s.heap/\F hp
structure Con where
 pre:AV->Hp->Prop
 post:AV->Hp->Hp->Prop
noncomputable def GY (B:Shared) (L:Addr) (h0:Heap) (Cn:Con):Protocol:=λ_ _ v s kap=>∃ (av:AV) (hp:Hp) (m:Loc),Rel B (hp.set L (.ns m)) s/\ImmLe h0 s.heap/\VR s.heap av v/\Cn.pre av hp /\
 ∀ s' hp',Cn.post av hp hp'->Rel B (hp'.set L (.ns m)) s'->ImmLe h0 s'.heap->kap (.send .none) s'
theorem GY.mono {B:Shared}{L:Addr} {h0:Heap}{Cn:Con}{n n':Nat} {s₀ sZ':Shared}{v:Value}{s:Shared}{kap kap':Resume->Shared->Prop} (h:GY B L h0 Cn n s₀ v s kap) (k:∀ r s',kap r s'->kap' r s'):GY B L h0 Cn n' sZ' v s kap':=by refine hide λ_ Z=>?_;refine aC h λav hp m h1 h2 h3 h4 h7=>?_;apply Z;clear Z;exact ⟨av,hp,m,h1,h2,h3,h4,λs' hp' p r le=>k _ _ (h7 s' hp' p r le)⟩
theorem Znw {M:Model}{A:Around}{B:Shared}{L:Addr} {h0:Heap}{Cn:Con}{F:Hp->Prop}:∀ {n:Nat} {s₀:Shared}{c:Code}{t:Sem Fin}{fs:List Frame}{s:Shared},Seg M A (GR B h0 F) (GY B L h0 Cn) n s₀ c t fs s->Seg M A (GR B h0 F) (GY B L h0 Cn) (n + 1) s₀ c t fs s:=by
 intro r_
 induction r_ with
 | zero=>
  intro s₀ c t fs s h;intro Γ p hc hΓ;refine am (h Γ p hc hΓ) λe s' hr he=>?_;refine ⟨e,s',hr,?_⟩;cases e with
  | ret r=>exact he
  | susp v g l k c p fs=>exact ⟨he.1,he.2.mono λ_ _ x=>x.elim⟩
 | succ n ih=>
  intro s₀ c t fs s h;intro Γ p hc hΓ;refine am (h Γ p hc hΓ) λe s' hr he=>?_;refine ⟨e,s',hr,?_⟩;cases e with
  | ret r=>exact he
  | susp v g l k c p fs=>exact ⟨he.1,he.2.mono λ_ _ x=>ih x⟩
theorem Zpx {M:Model}{A:Around}{B:Shared}{L:Addr} {h0:Heap}{Cn:Con}{F:Hp->Prop}{n n':Nat} {s₀:Shared}{c:Code}{t:Sem Fin}{fs:List Frame}{s:Shared} (h:Seg M A (GR B h0 F) (GY B L h0 Cn) n s₀ c t fs s) (le:n<=n'):Seg M A (GR B h0 F) (GY B L h0 Cn) n' s₀ c t fs s:=by
 induction le with
 | refl=>exact h
 | step _ ih=>exact Znw ih
section
variable {A:Around}{B:Shared}{env:Env}{m:Loc}{hp:Hp} {h0:Heap}{Cn:Con}{F:Hp->Prop}{n:Nat}{c:Code}{fs:List Frame}{K:Flow->Sem Fin}{H:Value->Sem Fin}
noncomputable def GS (PW:Program) (W0:World) (A:Around) (B:Shared) (env:Env) (h0:Heap) (Cn:Con) (F:Hp->Prop) (n:Nat) (c:Code) (fs:List Frame) (K:Flow->Sem Fin) (H:Value->Sem Fin) (sts:List Stmt) (m:Loc) (hp:Hp):Prop:=
 ∀ s s₀,Rel B (hp.set env.locals (.ns m)) s->ImmLe h0 s.heap->Seg (model PW W0) A (GR B h0 F) (GY B env.locals h0 Cn) n s₀ c ((execs sts env).wrap K H id id) fs s
noncomputable def GF (PW:Program) (W0:World) (A:Around) (B:Shared) (env:Env) (h0:Heap) (Cn:Con) (F:Hp->Prop) (n:Nat) (c:Code) (fs:List Frame) (K:Flow->Sem Fin) (f:AF) (m:Loc) (hp:Hp):Prop:=
 ∀ s s₀ fl,Rel B (hp.set env.locals (.ns m)) s->ImmLe h0 s.heap->FR s.heap f fl->Seg (model PW W0) A (GR B h0 F) (GY B env.locals h0 Cn) n s₀ c (K fl) fs s
noncomputable def KK (env:Env) (rest:List Stmt) (K:Flow->Sem Fin) (H:Value->Sem Fin):Flow->Sem Fin:=λf=>match f with | .next=>(execs rest env).wrap K H id id | f=>K f
theorem Ze3 (h:GF PW W0 A B env h0 Cn F n c fs K .next m hp):GS PW W0 A B env h0 Cn F n c fs K H [] m hp:=λs s₀ r le=>seg_execs_nil (h s s₀ .next r le rfl)
theorem Zga {rest:List Stmt} (h:GS PW W0 A B env h0 Cn F n c fs K H rest m hp):GF PW W0 A B env h0 Cn F n c fs (KK env rest K H) .next m hp:=λs s₀ fl r le hf=>by cases hf;exact h s s₀ r le
theorem Zc0 {st:Stmt}{rest:List Stmt} (h:EX (model PW W0) (A.over c fs) (λ_ _=>False) B env st m hp λf m' hp'=>match f with | .next=>GS PW W0 A B env h0 Cn F n c fs K H rest m' hp' | f=>GF PW W0 A B env h0 Cn F n c fs K f m' hp') :
  GS PW W0 A B env h0 Cn F n c fs K H (st :: rest) m hp:=λs s₀ r le=>by
 refine seg_execs_cons (seg_wrap (wpAny_mono (h s r) (λfl s' x=>?_) λ_ _ x=>x.elim));refine hide λ_ Z=>?_;refine aw x λaf m' hp' r' le' hf q=>?_;apply Z;clear Z;cases af with
 | next=>cases hf;exact q s' s₀ r' (le.trans le')
 | brk=>cases hf;exact q s' s₀ _ r' (le.trans le') rfl
 | cont=>cases hf;exact q s' s₀ _ r' (le.trans le') rfl
 | ret v=>obtain ⟨u,rfl,hu⟩:=hf;exact q s' s₀ _ r' (le.trans le') ⟨u,rfl,hu⟩
theorem Zjd {e:Expr}{rest:List Stmt}{ypos pos:Pos} (hfs:splitAtGen fs=none) (hfg:fs.any Frame.guarded=false)
  (h:EV (model PW W0) (A.over c fs) (λ_ _=>False) B env e m hp λav hp₁=>Cn.pre av hp₁/\∀ hp₂,Cn.post av hp₁ hp₂->GS PW W0 A B env h0 Cn F n c fs K H rest m hp₂)
  (hco:env.scope.isCoroutine=false:=by rfl) (hi:interactive env=false:=by rfl) :
  GS PW W0 A B env h0 Cn F (n + 1) c fs K H (.Expr (.Yield (some e) ypos) pos :: rest) m hp:=λs s₀ r le=>by
 refine seg_execs_cons (seg_Expr_Yield hfs rfl hfg (wpAny_mono (h s r) (λv s' x=>?_) λ_ _ x=>x.elim) hco hi);refine hide λ_ Z=>?_;refine aq x λav hp₁ r₁ le₁ hv V=>?_;refine az V λhpre q=>?_;clear V;apply Z;clear Z;intro kap hkap;exact ⟨av,hp₁,m,r₁,le.trans le₁,hv,hpre,λs'' hp'' p r'' le''=>hkap .none s'' (q hp'' p s'' s'' r'' le'')⟩
theorem Ztq {test:Expr}{body orelse rest:List Stmt}{pos:Pos} (h:TST (model PW W0) (A.over c fs) (λ_ _=>False) B env test m hp λb hp'=>if b then GS PW W0 A B env h0 Cn F n c fs (KK env rest K H) H body m hp' else GS PW W0 A B env h0 Cn F n c fs (KK env rest K H) H orelse m hp') :
  GS PW W0 A B env h0 Cn F n c fs K H (.If test body orelse pos :: rest) m hp:=λs s₀ r le=>by
 refine seg_execs_cons ?_;rw[exec_If,Sem.bind_eq_wrap',Sem.wrap_wrap];refine seg_wrap (wpAny_standAt ?_);rw[Sem.bind_eq_wrap',Sem.wrap_wrap];refine seg_wrap (Zr3 (h s r) λb s' hp' r' le' q=>?_);cases b with
 | true=>exact q s' s₀ r' (le.trans le')
 | false=>exact q s' s₀ r' (le.trans le')
end
section
variable {A:Around}{B:Shared}{env:Env}{m:Loc}{hp:Hp} {h0:Heap}{Cn:Con}{F:Hp->Prop}{n:Nat}{c:Code}{fs:List Frame}{K:Flow->Sem Fin}{H:Value->Sem Fin}
theorem Zro {target iter:Expr}{body rest:List Stmt}{pos:Pos} (hh:∀ it kk p,(A.over (.forLoop target (.ref it) body [] env) (.ret kk none false [] c p [] :: fs)).handled=none)
  (h:EV (model PW W0) (A.over c fs) (λ_ _=>False) B env iter m hp λo hp₁=>∃ a xs,o = .ref a/\Lst B hp₁ env.locals a xs/\∀ it,hp₁ it=none->it≠env.locals->∃ (I:Nat->Loc->Hp->Prop) (N:Nat->Nat),N 0<=n /\
   (∀ ob,I 0 m (hp₁.set it (.obj ob)))/\(∀ i m₂ hp₂ ob,I i m₂ hp₂->I i m₂ (hp₂.set it (.obj ob)))/\(∀ i m₂ hp₂,I i m₂ hp₂->Lst B hp₂ env.locals a xs) /\
   (∀ kk p K' H' i x m₂ hp₂ ob,xs[i]?=some x->I i m₂ hp₂->hp₂ it=some (.obj ob) ->
    (∀ n' mj hpj,N (i + 1)<=n'->I (i + 1) mj hpj->hpj it=some (.obj ob)->GF PW W0 A B env h0 Cn F n' (.forLoop target (.ref it) body [] env) (.ret kk none false [] c p [] :: fs) K' .next mj hpj) ->
    ASG (model PW W0) (A.over (.forLoop target (.ref it) body [] env) (.ret kk none false [] c p [] :: fs)) (λ_ _=>False) B env target x m₂ hp₂ λmX hpX=>
     GS PW W0 A B env h0 Cn F (N i) (.forLoop target (.ref it) body [] env) (.ret kk none false [] c p [] :: fs) K' H' body mX hpX) /\
   (∀ m₂ hp₂,I xs.length m₂ hp₂->GS PW W0 A B env h0 Cn F (N xs.length) c fs K H rest m₂ (hp₂.del it)))
  (hs:∀ x,foldedSetIterable iter env x=pure x:=by intro _;rfl) :
  GS PW W0 A B env h0 Cn F n c fs K H (.For target iter body [] pos :: rest) m hp:=λs s₀ r le=>by
 refine seg_execs_cons ?_;rw[exec_For,Sem.bind_eq_wrap',Sem.wrap_wrap];refine seg_wrap (wpAny_standAt ?_);rw[Sem.bind_eq_wrap',Sem.wrap_wrap];refine seg_wrap (wpAny_mono (h s r) (λu s₁ x=>?_) λ_ _ x=>x.elim);refine hide λ_ Z=>?_;obtain ⟨o,hp₁,r₁,le₁,hu,a,xs,rfl,hl,x⟩:=x;apply Z;clear Z;simp only[VR]at hu;subst hu;rw[Sem.bind_eq_wrap',Sem.wrap_wrap,hs];refine seg_wrap (wP ?_);rw[Sem.bind_eq_wrap',Sem.wrap_wrap];refine seg_wrap (wpAny_standAt ?_);rw[Sem.bind_eq_wrap',Sem.wrap_wrap];refine hide λ_ Z=>?_;obtain ⟨vs,hlst,hvs⟩:=r₁.lst hl;apply Z;clear Z;refine seg_wrap (wpAny_holding (wpAny_pyIter_list hlst ?_));refine hide λ_ Z=>?_;have nw:=r₁.newAt { cls:=.type "list_iterator",data:=.fields #[.ref a,.int 0 0] } (.obj { cls:=.type "list_iterator",data:=.fields #[.ref a,.int 0 0] }) ⟨Heap.get?_push_size _ rfl,λi=>by obtain ⟨_,_,_,e⟩:=i;cases e⟩;obtain ⟨I,N,hN,h1,hset,hlI,turn,fin⟩:=x _ nw.2.1 nw.2.2.1;apply Z;clear Z;generalize hit:s₁.heap.objs.size=it at *;refine seg_call λp=>?_;refine Zpx ?_ hN;generalize hkk:(λr=>Sem.wrap _ _ _ _ _)=kk;have loop:∀ (k i:Nat) (m₂:Loc) (hp₂:Hp) (ob:Obj) (s s₀:Shared),xs.length - i=k->i<=xs.length->I i m₂ hp₂->hp₂ it=some (.obj ob)->(ob.cls = .type "list_iterator" /\ ob.data = .fields #[.ref a,.int i 0])->Rel B (hp₂.set env.locals (.ns m₂)) s->ImmLe h0 s.heap ->
   Seg (model PW W0) A (GR B h0 F) (GY B env.locals h0 Cn) (N i) s₀ (.forLoop target (.ref it) body [] env) ((model PW W0).den (.forLoop target (.ref it) body [] env)) (.ret kk none false [] c p [] :: fs) s:=by
  intro k
  induction k with
  | zero=>
   intro i m₂ hp₂ ob s s₀ hkk' hi hI hob hst r le;have e:i=xs.length:=by (exact F20 0x986985004760780a 0x110000100101 rfl hkk' hi)
   subst e;show Seg _ A _ _ _ s₀ _ ((forTurn target (.ref it) body [] env).onRaise (λx=>do noteFrame x env;theTreesLotGoes x)) _ s;unfold forTurn;rw[Sem.onRaise_eq_wrap,Sem.bind_eq_wrap',Sem.wrap_wrap];refine seg_wrap (wpAny_standAt ?_);rw[Sem.bind_eq_wrap',Sem.wrap_wrap];obtain ⟨vs',hl',hvs'⟩:=r.lst (hlI _ _ _ hI);have hg:s.heap.get? it=some ob:=(r.at hob nw.2.2.1).1;refine seg_wrap (wpAny_onRaise (wpAny_pyNext_list_end (hh _ _ _) (i:=xs.length) ⟨ob,hg,hst.1,hst.2⟩ hl' ?_ λh' he=>?_))
   .have e:vs'.size=xs.length:=by rw[<-Array.length_toList];exact hvs'.length
    exact Array.getElem?_eq_none (by (exact F20 0x8758760 0x101 rfl e))
   .obtain ⟨r',le'⟩:=r.drop hob nw.2.2.1 he s.toks;have hf:=fin m₂ hp₂ hI _ s₀ r' (le.trans le');refine seg_again (c':=.block [] env) rfl ?_;show Seg _ A _ _ _ s₀ _ (.pure (.done .next)) _ _;refine seg_leaf (.ok .next) ?_;rw[<-hkk];exact hf
  | succ k ih=>
   intro i m₂ hp₂ ob s s₀ hkk' hi hI hob hst r le;have hlt:i < xs.length:=by (exact F30 0xa94680760891a 0x100111010 rfl hkk')
   show Seg _ A _ _ _ s₀ _ ((forTurn target (.ref it) body [] env).onRaise (λx=>do noteFrame x env;theTreesLotGoes x)) _ s;unfold forTurn;rw[Sem.onRaise_eq_wrap,Sem.bind_eq_wrap',Sem.wrap_wrap];refine seg_wrap (wpAny_standAt ?_);rw[Sem.bind_eq_wrap',Sem.wrap_wrap];obtain ⟨vs',hl',hvs'⟩:=r.lst (hlI _ _ _ hI);have hx:xs[i]?=some (xs.getD i .none):=by simp[List.getD,List.getElem?_eq_getElem hlt]
   obtain ⟨v,hv,hxv⟩:=hvs'.get (i:=i) (x:=xs.getD i .none) hx;have hg:s.heap.get? it=some ob:=(r.at hob nw.2.2.1).1;refine seg_wrap (wpAny_onRaise (wpAny_pyNext_list_item (i:=i) ⟨ob,hg,hst.1,hst.2⟩ hl' (by simpa using hv) λh' hit' hs'=>?_));obtain ⟨ob',hg',hc',hd'⟩:=hit';have t:=r.turn (a:=it) (o:=.obj ob) (Hp.snt nw.2.2.1 hob) hs' (.obj ob') (λ_=>⟨hg',λi'=>by obtain ⟨_,_,_,e⟩:=i';rw[hd']at e;cases e⟩) s.toks;rw[Hp.sc _ _ _ (Ne.symm nw.2.2.1)]at t;dsimp only;rw[Sem.bind_eq_wrap',Sem.wrap_wrap];refine seg_wrap (Zby hg' hc' rfl ?_);rw[Sem.bind_eq_wrap',Sem.wrap_wrap];rw[Sem.bind_eq_wrap'];generalize hKb:(λ(_:Unit)=>Sem.wrap _ _ _ _ (Sem.wrap _ _ _ _ (execs body env)))=kb;subst hKb;have tr:=turn kk p (λf=>(match f with | .next | .cont=>.pure (.again (.forLoop target (.ref it) body [] env)) | .brk=>.pure (.done .next) | .ret v=>.pure (.done (.ret v)))) (λe=>(do noteFrame e env;theTreesLotGoes e:Sem Unit).wrap (λ_=>.raise e) .raise id id) i _ m₂ (hp₂.set it (.obj ob')) ob' hx (hset _ _ _ _ hI) (Hp.ss ..) ?_
   .refine seg_wrap (Zr4 (tr _ v t.1 (hxv.mono t.2)) λ_ sX mX hpX rX leX q=>?_);have:=q sX s₀ rX ((le.trans t.2).trans leX);rw[Sem.wrap_wrap];refine Eq.mp (congrArg (λt=>Seg _ A _ _ _ s₀ _ t _ sX) ?_) this;refine Sem.wrap_congr (execs body env) _ _ (λf=>?_) (λe=>?_)
    .cases f <;> rfl
    .show _=(do noteFrame e env;theTreesLotGoes e:Sem Unit).bind λ_=>.raise e;rw[Sem.bind_eq_wrap]
   .intro n' mj hpj hn' hI' hob' sj sZ' fl rj lej hf;cases hf;refine seg_again rfl (Zpx ?_ hn');exact ih (i + 1) mj hpj ob' sj sZ' (by (exact F30 0x986690760a91a69081a 0x10000011100100100000111010100100100010010010101101101001 rfl hkk')) hlt hI' hob' ⟨hc',by rw[hd']⟩ rj lej
 refine loop xs.length 0 m _ _ _ s₀ rfl (Nat.zero_le _) (h1 _) (Hp.ss ..) ⟨rfl,rfl⟩ nw.1 ((le.trans le₁).trans nw.2.2.2)
end
section
variable {h0:Heap}{L:Addr}{Cn:Con}{F:Hp->Prop}{n:Nat}
noncomputable abbrev BG (B:Shared) (gn:Array GenState) (g:Nat) (gs:GenState):Shared:={ B with gens:=gn.setIfInBounds g gs }
theorem Rel.gen {s:Shared}{gn:Array GenState}{g:Nat}{x gs:GenState} (r:Rel (BG B gn g x) hp s) (hb:gs.bare=true):Rel (BG B gn g gs) hp (s.setGen g gs):=by
 refine ⟨r.keep,r.objs,r.os,⟨λy hy=>?_,λi y hy=>?_⟩,r.size⟩
 .obtain ⟨i,hi,rfl⟩:=Array.mem_iff_getElem.mp hy;by_cases e:i=g
  .subst e;have:(s.setGen i gs).gens[i]=gs:=by simp[Shared.setGen]
   rw[this];exact hb
  .have hi':i < s.gens.size:=by simpa [Shared.setGen] using hi
   have:(s.setGen g gs).gens[i]=s.gens[i]:=by simp only[Shared.setGen];exact Array.getElem_setIfInBounds_ne hi' (λh=>e h.symm)
   rw[this];exact r.bare.1 _ (Array.getElem_mem hi')
 .have sz:gn.size<=s.gens.size:=by have:=r.bare.2.size;simpa using this
  by_cases e:i=g
  .subst e;have hy':(gn.setIfInBounds i gs)[i]?=some y:=hy;rw[Array.getElem?_setIfInBounds_self]at hy';split at hy'
   .rename_i h;show (s.gens.setIfInBounds i gs)[i]?=some y;rw[Array.getElem?_setIfInBounds_self,if_pos (Nat.lt_of_lt_of_le h sz)];exact hy'
   .cases hy'
  .have hy':(gn.setIfInBounds g gs)[i]?=some y:=hy;rw[Array.getElem?_setIfInBounds_ne (λh=>e h.symm)]at hy';show (s.gens.setIfInBounds g gs)[i]?=some y;rw[Array.getElem?_setIfInBounds_ne (λh=>e h.symm)];refine r.bare.2 i y ?_;show (gn.setIfInBounds g x)[i]?=some y;rw[Array.getElem?_setIfInBounds_ne (λh=>e h.symm)];exact hy'
theorem Rel.genAt {s:Shared}{gn:Array GenState}{g:Nat}{gs:GenState} (r:Rel (BG B gn g gs) hp s) (hg:g < gn.size):s.gens[g]?=some gs:=r.bare.2 g gs (by show (gn.setIfInBounds g gs)[g]?=_;exact ((Array.getElem?_setIfInBounds_self).trans ((if_pos hg))))
noncomputable def lcon (hk:Hp) (S L:Addr):Con:=⟨λ_ hp=>∃ acc,hp S=some (.list acc)/\S≠L/\acc.length < 1000/\Hp.Le hk hp,λav hp hp'=>∃ acc,hp S=some (.list acc)/\hp'=hp.set S (.list (acc ++ [av]))⟩
theorem Zit {I:Addr}{g:Nat}{gs:GenState}{s:Shared}{Q:Option Value->Shared->Prop} (hh:A.handled=none) (hl:s.heap.NoLimit) (hroom:A.depth < recursionLimit) (hg:s.heap.IsGen I g) (hgs:s.gens[g]?=some gs)
  (hgo:gs.Goes (model PW W0) A.in1 (GR B h0 F) (GY B L h0 Cn) n (.send .none) (s.setGen g .running))
  (hY:∀ v s₁ gs',gs'.bare=true->GY B L h0 Cn (n - 1) (s.setGen g .running) v s₁ (λr' s''=>match n with | 0=>False | m + 1=>gs'.Goes (model PW W0) A.in1 (GR B h0 F) (GY B L h0 Cn) m r' s'')->Q (some v) (s₁.setGen g gs'))
  (hP:∀ s₁ hp,Rel B hp s₁->ImmLe h0 s₁.heap->F hp->∀ h',s₁.heap.objs.size<=h'.objs.size->(∀ b o,s₁.heap.get? b=some o->h'.get? b=some o)->Q none { s₁.setGen g .finished with heap:=h' }):wpAny (model PW W0) A (pyNext (.ref I)) Q E s:=by
 unfold pyNext;refine wB (wpAny_attempt (wpAny_callSpecial?_slot (name:=Str.ofString "__next__") hg.typeIs slot_gen_next (wpAny_call_entry slot_gen_next hg.typeIs entry_gen_next ?_ (args_gen_next _))));show wpAny _ A.in1 (Builtin.Generator.genWake (.ref I) (.send .none)) _ _ s;unfold Builtin.Generator.genWake;refine wB (wpAny_holding (wpAny_genNumber hg (wB (wpAny_genState hgs ?_))));cases gs with
 | running=>exact hgo.elim
 | finished=>exact hgo.elim
 | _=>
  refine wB (wpAny_roomToWake hl hroom ?_);show wpAny _ A.in1 (.resume g (.send .none) [] _) _ _ s;refine wpAny_resumeQ hgs hgo (λx s₁ hx=>?_) (λv s₁ gs' hb hv=>wP ⟨v,rfl,wP (hY v s₁ gs' hb hv)⟩);obtain ⟨rfl,hp,r,le,q⟩:=hx;show wpAny _ A.in1 (newExc (.type "StopIteration") [] >>= _) _ _ _;refine wB ?_;simp only[newExc,newTuple];refine wB (wpAny_newObj_type ?_ (by size_fits));refine wB (m:=firstArgMember _ _) (wpAny_of_eq (a:=Value.none) (by rfl) ?_);refine wpAny_newObj_type ?_ (by size_fits);dsimp only [raiseNew];refine wB (wB (wpAny_handled ?_));refine (show A.in1.handled=none from hh).symm▸?_;refine wpAny_throw (wB (wpAny_isInstance (T := "StopIteration") (b:=true) ⟨_,Heap.get?_push_size _ rfl,rfl⟩ isSubtype_stop ?_));exact wP (hP s₁ hp r le q _ (by rw[Heap.size_push,Heap.size_push];exact Nat.le_trans (Nat.le_succ _) (Nat.le_succ _)) λb o hb=>Heap.get?_push_of_some _ (Heap.get?_push_of_some _ hb))
theorem Zun {I S:Addr}{hk:Hp}{g:Nat}{gn:Array GenState}{go:Obj}{res:Value}{R:Result->Shared->Prop} (hh:A.handled=none) (hroom:A.depth < recursionLimit) (lim:B.heap.NoLimit) (hkI:hk I=some (.obj go)) (hgo:∀ h:Heap,h.get? I=some go->h.IsGen I g) (hIL:I≠L) (hkS:hk S=none) (hgB:g < gn.size)
  (hR:∀ s' hp',Rel (BG B gn g .finished) hp' s'->ImmLe h0 s'.heap->F hp'->R (.ok (.ret res)) s') :
  ∀ (n:Nat) (s:Shared) (hp:Hp) (m:Loc) (acc:List AV) (gs:GenState),Rel (BG B gn g gs) (hp.set L (.ns m)) s->ImmLe h0 s.heap->hp S=some (.list acc)->S≠L->Hp.Le hk hp ->
   (∀ s',Rel (BG B gn g .running) (hp.set L (.ns m)) s'->ImmLe h0 s'.heap->gs.Goes (model PW W0) A.in1.in1 (GR (BG B gn g .running) h0 F) (GY (BG B gn g .running) L h0 (lcon hk S L)) n (.send .none) s') ->
   codeAny (model PW W0) A (.builtin "list.extend.loop" ⟨[.ref S,.ref I,res],[]⟩) R s:=by
 have step:∀ (n:Nat) (s:Shared) (hp:Hp) (m:Loc) (acc:List AV) (gs:GenState),Rel (BG B gn g gs) (hp.set L (.ns m)) s->ImmLe h0 s.heap->hp S=some (.list acc)->S≠L->Hp.Le hk hp -> (∀ s',Rel (BG B gn g .running) (hp.set L (.ns m)) s'->ImmLe h0 s'.heap->gs.Goes (model PW W0) A.in1.in1 (GR (BG B gn g .running) h0 F) (GY (BG B gn g .running) L h0 (lcon hk S L)) n (.send .none) s') -> (∀ m' (s:Shared) (hp:Hp) (m:Loc) (acc:List AV) (gs:GenState),n=m' + 1->Rel (BG B gn g gs) (hp.set L (.ns m)) s->ImmLe h0 s.heap->hp S=some (.list acc)->S≠L->Hp.Le hk hp -> (∀ s',Rel (BG B gn g .running) (hp.set L (.ns m)) s'->ImmLe h0 s'.heap->gs.Goes (model PW W0) A.in1.in1 (GR (BG B gn g .running) h0 F) (GY (BG B gn g .running) L h0 (lcon hk S L)) m' (.send .none) s') -> codeAny (model PW W0) A (.builtin "list.extend.loop" ⟨[.ref S,.ref I,res],[]⟩) R s) ->
   codeAny (model PW W0) A (.builtin "list.extend.loop" ⟨[.ref S,.ref I,res],[]⟩) R s:=by
  intro n s hp m acc gs r le hS hSL hkp hgoes ih;refine codeAny_builtin PySem.F.entry_extend_loop ?_;rw[Around.under_plainId PySem.F.plain_extend_loop _];show wpAny _ A.in1 (pyNext (.ref I) >>= _) _ _ s;have hIg:s.heap.IsGen I g:=hgo _ ((r.objs I (.obj go) (Hp.snt hIL (hkp _ _ hkI))).2.1);refine wB (Zit (B:=BG B gn g .running) (A:=A.in1) hh (lim.keeps r.keep) hroom hIg (r.genAt hgB) (hgoes _ (r.gen rfl) le) (λv s₁ gs' hb hv=>?_) (λs₁ hp₁ r₁ le₁ q h' hz k=>?_))
  .refine aC hv λav hp₁ m₁ r₁ le₁ hav V hgo₁=>?_;refine ap V λacc₁ hS₁ hSL₁ hlen hk₁=>?_;clear V;refine am ((r₁.objs S _ (Hp.snt hSL₁ hS₁)).2) λvs nn hl hvs=>?_;have rV:=r₁.gen hb;have hsz:vs.size=acc₁.length:=by refine Array.length_toList▸?_;exact hvs.length
   have hlV:(s₁.setGen g gs').heap.get? S=some { cls:=.type "list",dict:=none,data:=.seq vs nn,slots:=#[] }:=hl;have t:=rV.turn (a:=S) (o:=.list acc₁) (Hp.snt hSL₁ hS₁) (h':=s₁.heap.update S (Obj.mapSeq (·.push v))) (Heap.SameBut.update ..) (.list (acc₁ ++ [av]))
    (λle=>⟨_,_,IsL.update hl (·.push v),by rw[Array.toList_push];exact (hvs.mono le).append (VRs.one (hav.mono le))⟩) s₁.toks
   rw[Hp.sc _ _ _ (Ne.symm hSL₁)]at t;show wpAny _ A.in1 (updateSeq S (·.push v) >>= _) _ _ _;refine wB (wpAny_updateSeq hlV rfl (wP ⟨plainId_quiet PySem.F.plain_extend_loop _,?_⟩) (by rw[hsz];have:=sizeLine_eq;lia) (by show (vs.push v).size<=sizeLine + 1;rw[Array.size_push,hsz];have:=sizeLine_eq;(exact Nat.le_trans ‹_› (by decide))));have leN:ImmLe h0 (s₁.heap.update S (Obj.mapSeq (·.push v))):=le₁.trans t.2;cases n with
   | zero=>exact (hgo₁ _ _ ⟨acc₁,hS₁,rfl⟩ (t.1.gen (gs:=.running) rfl) leN).elim
   | succ n=>exact ih n _ (hp₁.set S (.list (acc₁ ++ [av]))) m₁ (acc₁ ++ [av]) gs' rfl t.1 leN (Hp.ss ..) hSL₁ (hk₁.set hkS _) λs' r' le'=>hgo₁ s' _ ⟨acc₁,hS₁,rfl⟩ r' le'
  .refine wP (hR _ hp₁ ?_ (le₁.trans (ImmLe.keep k)) q);have rV:=r₁.gen (gs:=.finished) rfl;exact ⟨λb o e=>k _ _ (r₁.keep b o e),λa o e=>⟨(r₁.objs a o e).1,(r₁.objs a o e).2.here (ImmLe.keep k) λo' e'=>k _ _ e'⟩,r₁.os,rV.bare,Nat.le_trans r₁.size hz⟩
 intro n
 induction n with
 | zero=>intro s hp m acc gs r le hS hSL hkp hgoes;exact step 0 s hp m acc gs r le hS hSL hkp hgoes (λm' _ _ _ _ _ e=>by cases e)
 | succ n ih=>intro s hp m acc gs r le hS hSL hkp hgoes;exact step (n + 1) s hp m acc gs r le hS hSL hkp hgoes (λm' s hp m acc gs e=>by cases e;exact ih s hp m acc gs)
end
section
variable {A:Around}{E:ET}{s:Shared}{R:Result->Shared->Prop}
theorem Zoq {I S:Addr}{g:Nat} (hS:s.heap.get? S=some { cls:=.type "list",data:=.seq #[] }) (hI:s.heap.IsGen I g) (hSI:S≠I)
  (hloop:∀ h' c',Heap.SameBut S s.heap h'->h'.get? S=some { cls:=.type "list",dict:=none,data:=.seq #[] c',slots:=#[] }->codeAny (model PW W0) A (.builtin "list.extend.loop" ⟨[.ref S,.ref I,.none],[]⟩) R { s with heap:=h' }) :
  wpAny (model PW W0) A.in1 (Builtin.«list.__init__» ⟨[.ref S,.ref I],[]⟩)
   (λfin s'=>match fin with | .done f=>R (.ok f) s' | .again c'=>c'.quiet=true/\codeAny (model PW W0) A c' R s') (λe s'=>R (.error e) s') s:=by
 show wpAny _ A.in1 (do let old <-Builtin.List.listItems (.ref S);Builtin.List.listUpdate (.ref S) (λ_=>#[]);letGo old.toList.reverse;Builtin.List.listExtendWith (.ref S) (.ref I) .none) _ _ s;refine wB ?_;unfold Builtin.List.listItems;refine wB (wpAny_seqItems hS rfl (wP ?_));show wpAny _ A.in1 (updateSeq S (λ_=>#[]) >>= λ_=>letGo (#[]:Array Value).toList.reverse >>= λ_=>Builtin.List.listExtendWith (.ref S) (.ref I) .none) _ _ s;refine wB (wpAny_updateSeq hS rfl ?_);have hS₁:=Heap.get?_update_self (Obj.mapSeq (λ_=>(#[]:Array Value))) hS rfl;have hs₁:Heap.SameBut S s.heap (s.heap.update S (Obj.mapSeq (λ_=>(#[]:Array Value)))):=Heap.SameBut.update ..;refine wB (wpAny_letGo ?_);have hI₁:=hI.sameBut hs₁ (Ne.symm hSI);unfold Builtin.List.listExtendWith;refine wB (wpAny_typeOf (s:={ s with heap:=s.heap.update S (Obj.mapSeq (λ_=>(#[]:Array Value))) }) (Heap.IsGen.typeIs (s:={ s with heap:=s.heap.update S (Obj.mapSeq (λ_=>(#[]:Array Value))) }) hI₁) ?_);have h1:Builtin.List.listSameRef (.ref S) (.ref I)=false:=by exact if_neg hSI
 have h2:(Value.type "generator" == Value.type "list")=false:=by decide
 have h3:(Value.type "generator" == Value.type "tuple")=false:=by decide
 simp only[h1,h2,h3,Bool.or_false,Bool.false_eq_true,if_false];have hT₁:=Heap.IsGen.typeIs (s:={ s with heap:=s.heap.update S (Obj.mapSeq (λ_=>(#[]:Array Value))) }) hI₁;refine wB (wpAny_pyIter_gen (s:={ s with heap:=s.heap.update S (Obj.mapSeq (λ_=>(#[]:Array Value))) }) hI₁ ?_);refine wB (wpAny_holding ?_);unfold Builtin.List.listLengthHint;refine wB (wpAny_specialOf hT₁ F.gen_no_len ?_);show wpAny _ A.in1 (specialOf (Value.ref I) (Str.ofString "__length_hint__") >>= _) _ _ _;refine wB (wpAny_specialOf hT₁ F.gen_no_hint ?_);refine wP ?_;show wpAny _ A.in1 (rule "list.extend.makes-room" >>= λ_=>Builtin.List.listTouch (.ref S) >>= λ_=>again (.builtin "list.extend.loop" ⟨[.ref S,.ref I,.none],[]⟩)) _ _ _;refine wB (wpAny_rule (wB ?_));show wpAny _ A.in1 (updateSeq S (·.push .none) >>= λ_=>updateSeq S (·.pop)) _ _ _;refine wB (wpAny_updateSeq hS₁ rfl ?_);have hSV:=Heap.get?_update_self (Obj.mapSeq (·.push Value.none)) hS₁ rfl;refine wpAny_updateSeq (hz:=by seq_fits) hSV rfl ?_;have hSX:=Heap.get?_update_self (Obj.mapSeq (·.pop)) hSV rfl;refine wP ⟨plainId_quiet F.plain_extend_loop _,hloop _ _ ?_ hSX⟩;exact (hs₁.trans (Heap.SameBut.update ..)).trans (Heap.SameBut.update ..)
end
noncomputable def Kf:Flow->Sem PySem.Fin:=λf=>.pure (.done (.ret (match f with | .ret v=>v | _=>.none)))
noncomputable def Hf (env:Env):Value->Sem PySem.Fin:=λe=>(leaving env e).wrap (λ_=>.raise e) .raise id id
section
variable {K:Frag}
theorem Zqc {env:Env} {h0:Heap}{Cn:Con}{F:Hp->Prop}{n:Nat}{c:Code} (h:F (hp.set env.locals (.ns m))):GF PW W0 A B env h0 Cn F n c [] Kf .next m hp:=λs s₀ fl r le hf=>by cases hf;exact seg_end (.ok (.ret .none)) ⟨rfl,_,r,le,h⟩
theorem Zi5 {f:Addr}{fd:FuncData}{body:List Stmt}{avs:List AV}{bs:List (PySem.Str × AV)}{s:Shared}{vs:List Value}{Q:ET} (G:Gnd K B) (ho:K.lookup f=some ⟨.type "function",none,.func fd,#[]⟩) (hcd:codeIn K fd.code fd.qualname=true)
  (hbody:fd.body = .stmts body) (hroom:A.depth < recursionLimit)
  (hbind:∀ s vs,VRs s.heap avs vs->(∀ b o,B.heap.get? b=some o->s.heap.get? b=some o)->∃ us:List (PySem.Str × Value),BindsTo s fd ⟨vs,[]⟩ us/\us.reverse.map (·.1)=bs.map (·.1)/\VRs s.heap (bs.map (·.2)) (us.reverse.map (·.2)))
  (hloc:bs.all (λx=>fd.scope.names.lookup x.1 == some .local)=true) (hcell:∀ x ∈ fd.scope.names,x.2≠.cell)
  (r:Rel B (hp.set env.locals (.ns m)) s) (hv:VRs s.heap avs vs)
  (h:∀ L I go s',hp L=none->L≠env.locals->hp I=none->I≠env.locals->I≠L->(∀ h:Heap,h.get? I=some go->h.IsGen I s.gens.size) ->
   Rel { B with gens:=s'.gens } ((((hp.set env.locals (.ns m)).set I (.obj go))).set L (.ns (Zaq bs))) s'->GensLe s.gens s'.gens->s.gens.size < s'.gens.size->s'.gens[s.gens.size]?=some (.fresh (.func body (callEnv fd L f)))->ImmLe s.heap s'.heap->Q (.ref I) s')
  (hco:fd.scope.isCoroutine=false:=by rfl) (hgen:fd.scope.isGenerator=true:=by rfl) (hk:fd.scope.kind = .function:=by rfl) :
  wpAny (model PW W0) A (call (.ref f) vs) Q E s:=by
 refine hide λ_ Z=>?_;refine ae (hbind s vs hv r.keep) λus hb e1 e2=>?_;apply Z;clear Z;have nm:us.map (·.1)=(bs.map (·.1)).reverse:=by rw[<-e1,List.map_reverse,List.reverse_reverse]
 have hlim:=G.lim.keeps r.keep;refine wpAny_call (codeAny_call_generator hroom (r.keep _ _ (G.X _ _ ho)) rfl hco hgen hbody (codeRec_of (G.X.keeps r.keep) hcd) (hb _ _ _ _ ?_));refine wpAny_newFunctionEnv hcell (λx hx=>?_) (λh₀ hnsZ hsbZ=>⟨hlim.fresh _ hsbZ,?_⟩) hk
 .refine hide λ_ Z=>?_;have:x.1 ∈ bs.map (·.1):=by rw[<-List.mem_reverse,<-nm];exact List.mem_map_of_mem hx
  refine aa (List.mem_map.mp this) λy hy e=>?_;apply Z;clear Z;refine e▸?_
  simpa using List.all_eq_true.mp hloc y hy
 .have hkZ:∀ b o,s.heap.get? b=some o->h₀.get? b=some o:=λb o e=>hsbZ.extBut b o (Nat.ne_of_lt (Heap.lt_size e)) (Heap.get?_push_of_some _ e);have hne:s.heap.objs.size≠env.locals:=λe=>by have f:=r.fresh;rw[e,Hp.ss]at f;cases f
  have hfr:hp s.heap.objs.size=none:=by have f:=r.fresh;rw[Hp.sn _ _ hne]at f;exact f
  have le:ImmLe s.heap h₀:=ImmLe.keep hkZ;have rel:Rel B ((hp.set env.locals (.ns m)).set (callEnv fd s.heap.objs.size f).locals (.ns (Zaq bs))) { s with heap:=h₀,toks:=s.toks + us.length }:=by
   refine ⟨λb o e=>hkZ _ _ (r.keep b o e),λa o' e=>?_,r.os,r.bare,?_⟩
   .by_cases ha:a=s.heap.objs.size
    .subst ha;rw[show (callEnv fd s.heap.objs.size f).locals=s.heap.objs.size from rfl,Hp.ss]at e;cases e;exact ⟨r.size,_,hnsZ,Zk9 e1 (e2.mono le)⟩
    .rw [show (callEnv fd s.heap.objs.size f).locals=s.heap.objs.size from rfl,Hp.sn _ _ ha]at e;exact ⟨(r.objs a o' e).1,(r.objs a o' e).2.here le λo'' e=>hkZ _ _ e⟩
   .exact Nat.le_trans r.size (Nat.le_of_lt hnsZ.lt)
  generalize hgo:({ cls:=.type "generator",data:=.fields #[.int s.gens.size 0,.str fd.name (s.toks + us.length),.str fd.qualname (s.toks + us.length + 1)] }:Obj)=go;have hgen':∀ h:Heap,∀ I,h.get? I=some go->h.IsGen I s.gens.size:=λh I e=>⟨go,_,_,e,by exact hgo▸rfl,by rw[<-hgo],by exact hgo▸rfl⟩;have x:=Rel.newAt rel go (.obj go) ⟨Heap.get?_push_size _ (by refine hgo▸?_;rfl),λi=>by obtain ⟨_,xs,n,e⟩:=i;rw[<-hgo]at e;cases e⟩;have hIe:h₀.objs.size≠env.locals:=λe=>by have:=x.2.1;rw[show ({ s with heap:=h₀,toks:=s.toks + us.length }:Shared).heap.objs.size=h₀.objs.size from rfl,e,Hp.ss]at this;cases this
  have hIn:hp h₀.objs.size=none:=by have:=x.2.1;rw[show ({ s with heap:=h₀,toks:=s.toks + us.length }:Shared).heap.objs.size=h₀.objs.size from rfl,Hp.sn _ _ hIe]at this;exact this
  refine h s.heap.objs.size h₀.objs.size go _ hfr hne hIn hIe x.2.2.1 (λh=>hgen' h _) ?_ (.push _ _) ?_ ?_ ?_
  .have y:=x.1;exact ⟨y.keep,y.objs,y.os,⟨r.bare.1.push rfl,.refl _⟩,y.size⟩
  .show s.gens.size < (s.gens.push _).size;rw[Array.size_push];exact Nat.lt_succ_self _
  .exact Array.getElem?_push_size ..
  .exact le.trans x.2.2.2
end
section
variable {K:Frag}
theorem Rel.base {s:Shared}{gn:Array GenState}{g:Nat}{x:GenState} (r:Rel (BG B gn g x) hp s) (le:GensLe B.gens gn) (hg:B.gens.size<=g):Rel B hp s:=
 ⟨r.keep,r.objs,r.os,⟨r.bare.1,λi y hy=>r.bare.2 i y (by
  have hi:i < B.gens.size:=by
   rcases Nat.lt_or_ge i B.gens.size with h | h
   .exact h
   .rw [Array.getElem?_eq_none h]at hy;cases hy
  show (gn.setIfInBounds g x)[i]?=some y;rw[Array.getElem?_setIfInBounds_ne (λh=>Nat.ne_of_lt (Nat.lt_of_lt_of_le hi hg) h.symm)]
  exact le i y hy)⟩,r.size⟩
theorem Rel.toBG {s:Shared}{gn:Array GenState}{g:Nat}{x:GenState} (r:Rel { B with gens:=gn } hp s) (hg:gn[g]?=some x):Rel (BG B gn g x) hp s:=by
 refine ⟨r.keep,r.objs,r.os,⟨r.bare.1,λi y hy=>r.bare.2 i y ?_⟩,r.size⟩;have hy':(gn.setIfInBounds g x)[i]?=some y:=hy;by_cases e:i=g
 .subst e;rw[Array.getElem?_setIfInBounds_self]at hy';split at hy'
  .refine .trans ?_ hy';exact hg
  .cases hy'
 .rwa [Array.getElem?_setIfInBounds_ne (λh=>e h.symm)]at hy'
theorem Zjv {I g n:Nat}{go:Obj}{body:List Stmt}{genv:Env}{gn:Array GenState} {h0:Heap}{F:Addr->Hp->Prop}{s:Shared}{Q:ET} (hh:A.handled=none) (hroom:A.depth < recursionLimit) (lim:B.heap.NoLimit)
  (r:Rel { B with gens:=gn } (hp.set genv.locals (.ns m)) s) (le:ImmLe h0 s.heap) (hI:hp I=some (.obj go)) (hIL:I≠genv.locals) (hgo:∀ h:Heap,h.get? I=some go->h.IsGen I g) (hg:gn[g]?=some (.fresh (.func body genv))) (hgB:g < gn.size)
  (hbody:∀ S,hp S=none->S≠genv.locals->GS PW W0 A.in1.in1.in1 (BG B gn g .running) genv h0 (lcon (Hp.set (λ_=>none) I (.obj go)) S genv.locals) (F S) n (.func body genv) [] Kf (Hf genv) body m (hp.set S (.list [])))
  (hQ:∀ S s' hp',hp S=none->S≠genv.locals->Rel (BG B gn g .finished) hp' s'->ImmLe h0 s'.heap->F S hp'->Q (.ref S) s'):wpAny (model PW W0) A (call (.type "list") [.ref I]) Q E s:=by
 refine callType_codes (Q₁:=λobj s₁=>obj = .ref s.heap.objs.size/\s₁={ s with heap:=s.heap.push { cls:=.type "list",data:=.seq #[] } }) PySem.F.called_list (PySem.F.typeCall_list_1 _) PySem.F.entry_list_init (code_list_new _ ⟨rfl,rfl⟩) λobj s₁ h₁=>?_;obtain ⟨rfl,rfl⟩:=h₁;have hS:(s.heap.push { cls:=.type "list",data:=.seq #[] }).get? s.heap.objs.size=some { cls:=.type "list",data:=.seq #[] }:=Heap.get?_push_size _ rfl;have x:=Rel.newAt r { cls:=.type "list",data:=.seq #[] } (.list []) ⟨#[],0,hS,by rfl⟩;have hIS:s.heap.objs.size≠I:=Ne.symm (Hp.ne_of hI x.2.1);have hIg:(s.heap.push { cls:=.type "list",data:=.seq #[] }).IsGen I g:=hgo _ (Heap.get?_push_of_some _ (r.objs I (.obj go) (Hp.snt hIL hI)).2.1);refine ⟨⟨_,hS,rfl⟩,PySem.F.args_list_init_2 _ _,Zoq (A:=A.in1) (s:={ s with heap:=s.heap.push { cls:=.type "list",data:=.seq #[] } }) hS hIg hIS λh' c' hs' hS'=>?_⟩;have t:=Rel.turn x.1 (a:=s.heap.objs.size) (o:=.list []) (Hp.snt x.2.2.1 (Hp.ss ..)) hs' (.list []) (λ_=>⟨#[],c',hS',by rfl⟩) s.toks;rw[Hp.sc _ _ _ (Ne.symm x.2.2.1),Hp.set_set]at t
 refine Zun (A:=A.in1) (gn:=gn) (F:=F s.heap.objs.size) (hk:=Hp.set (λ_=>none) I (.obj go)) (L:=genv.locals) (S:=s.heap.objs.size) (go:=go) hh hroom lim (Hp.ss ..) hgo hIL (by exact (Hp.sn _ _ hIS)) hgB (λs' hp' r' le' q=>⟨rfl,hQ _ s' hp' x.2.1 x.2.2.1 r' le' q⟩) n _ (hp.set s.heap.objs.size (.list [])) m [] (.fresh (.func body genv)) (t.1.toBG hg) ((le.trans x.2.2.2).trans t.2) (Hp.ss ..) x.2.2.1 (λz oz hz=>by
  by_cases hzI:z=I
  .subst hzI;rw[Hp.ss]at hz;rw[Hp.sn _ _ (Ne.symm hIS),hI];exact hz
  .rw [Hp.sn _ _ hzI]at hz;cases hz) ?_
 intro s' r' le';exact ⟨rfl,seg_func (hbody _ x.2.1 x.2.2.1 s' s' r' le')⟩
theorem Zkf {func o e:Expr}{name:PySem.Str}{rest:List Expr} {apos ipos pos}{pl:Sem Bool}{C f:Addr}{fd:FuncData}{body:List Stmt}{Q:QV} (G:Gnd K B) (P:Cls K C) (hf:findIn K (.ref C) name=some (some (.ref f))) (ht:typeIn K (.ref f)=some (.type "function")) (hk:keepIn K (.ref f)=true)
  (hh:A.handled=none) (hroom:A.depth < recursionLimit) (ho:K.lookup f=some ⟨.type "function",none,.func fd,#[]⟩) (hcd:codeIn K fd.code fd.qualname=true) (hbody:fd.body = .stmts body) (hcell:∀ x ∈ fd.scope.names,x.2≠.cell)
  (h:EV (model PW W0) A E B env func m hp λfv hpZ=>fv = .ty "list" /\ EV (model PW W0) A E B env o m hpZ λv hp₁=>∃ x dx ma,v = .ref x/\Ins hp₁ env.locals x dx C ma/\ma name=none/\EVS (model PW W0) A E B env (e :: rest) m hp₁ λvs hp₂=>
   ∃ (bs:List (PySem.Str × AV)) (n:Nat),(∀ s ws,VRs s.heap (.ref x :: vs) ws->(∀ b o,B.heap.get? b=some o->s.heap.get? b=some o)->∃ us:List (PySem.Str × Value),BindsTo s fd ⟨ws,[]⟩ us/\us.reverse.map (·.1)=bs.map (·.1)/\VRs s.heap (bs.map (·.2)) (us.reverse.map (·.2))) /\
    bs.all (λx=>fd.scope.names.lookup x.1 == some .local)=true /\
    ∀ (gn:Array GenState) (g:Nat) (h0:Heap) (L I S:Addr) (go:Obj),hp₂ L=none->L≠env.locals->hp₂ I=none->I≠env.locals->I≠L->hp₂ S=none->S≠env.locals->S≠L->S≠I ->
     GS PW W0 A.in1.in1.in1 (BG B gn g .running) (callEnv fd L f) h0 (lcon (Hp.set (λ_=>none) I (.obj go)) S L) (λhp'=>∃ hpX,Hp.Le (hpX.set env.locals (.ns m)) hp'/\Q (.ref S) hpX) n (.func body (callEnv fd L f)) [] Kf (Hf (callEnv fd L f)) body (Zaq bs) (((hp₂.set env.locals (.ns m)).set I (.obj go)).set S (.list [])))
  (hc0:eval (.Call func [.Call (.Attribute o name apos) (e :: rest) [] ipos] [] pos) env=(do callWith pos (<-eval func env) [] (backTo pos (starEach [.Call (.Attribute o name apos) (e :: rest) [] ipos] env)) (backToKw pos (keywordEach [] env))):=by rfl)
  (he0:starEach [.Call (.Attribute o name apos) (e :: rest) [] ipos] env=[(false,eval (.Call (.Attribute o name apos) (e :: rest) [] ipos) env)]:=by rfl)
  (hc:eval (.Call (.Attribute o name apos) (e :: rest) [] ipos) env=(do
   let ov <-eval o env
   standAt apos.atName
   let (f,first) <-holding [ov] (getMethod ov name pl)
   callWith ipos f first (backTo ipos (starEach (e :: rest) env)) []):=by rfl)
  (he:starEach (e :: rest) env=(false,eval e env) :: starEach rest env:=by rfl) (hplain:(backTo ipos (starEach rest env)).any (·.1)=false:=by rfl)
  (hco:fd.scope.isCoroutine=false:=by rfl) (hgen:fd.scope.isGenerator=true:=by rfl) (hkd:fd.scope.kind = .function:=by rfl) :
  EV (model PW W0) A E B env (.Call func [.Call (.Attribute o name apos) (e :: rest) [] ipos] [] pos) m hp Q:=λs r=>by
 refine Call_ (h.use r λu s₀ fv hpZ rZ leZ hu yq=>?_) hc0;refine hide λ_ Z=>?_;obtain ⟨hf0,q⟩:=yq;subst hf0;simp only[VR]at hu;subst hu;apply Z;clear Z;refine PyProof.Rows.callWith_type1 (args_cons ?_ he0) he0 rfl;refine MethodCall_ (pl:=pl) (q.use rZ λu s₁ l hp₁ r₁ le₁ hu x=>?_) hc;refine hide λ_ Z=>?_;obtain ⟨x,dx,ma,rfl,I,hno,q⟩:=x;simp only[VR]at hu;subst hu;refine aE (r₁.ins I) λod mv IA hn hm hw hl=>?_;apply Z;clear Z;refine method_fn (G.X.keeps r₁.keep) IA P.ga P.gk hf ht (by unfold shadowIn;simp[hl,hm.2 name hno]) ?_;refine callWith_K (K:=K) G.X hk (Zcr (q ipos s₁ r₁) λvs sV avs hp₂ rV leV hv q=>⟨G.X.keeps rV.keep,?_⟩) he hplain;refine hide λ_ Z=>?_;obtain ⟨bs,n,hbind,hloc,q⟩:=q;apply Z;clear Z;refine Zi5 G ho hcd hbody hroom hbind hloc hcell rV (by simp only[VRs];exact ⟨_,_,rfl,VR_ref,hv⟩) (λL I' go s' hL hLe hI hIe hIL hgo rel hgl hsz hfr le'=>?_) hco hgen hkd;refine args_nil ?_;have hIset:((hp₂.set env.locals (.ns m)).set I' (.obj go)) I'=some (.obj go):=Hp.ss ..;refine Zjv (n:=n) (genv:=callEnv fd L f) (h0:=s.heap) (F:=λS hp'=>∃ hpX,Hp.Le (hpX.set env.locals (.ns m)) hp'/\Q (.ref S) hpX) (B:=B) (gn:=s'.gens) hh hroom G.lim rel (((leZ.trans le₁).trans leV).trans le') hIset hIL hgo hfr hsz (λS hS hSL=>?_) λS s'' hp' hS hSL r'' le'' ⟨hpX,hle,hq⟩=>?_
 .have hSI:S≠I':=λe=>by rw[e,Hp.ss]at hS;cases hS
  rw[Hp.sn _ _ hSI]at hS;have hSe:S≠env.locals:=λe=>by rw[e,Hp.ss]at hS;cases hS
  rw[Hp.sn _ _ hSe]at hS;exact q s'.gens _ s.heap L I' S go hL hLe hI hIe hIL hS hSe hSL hSI
 .refine ⟨.ref S,hpX,?_,le'',VR_ref,hq⟩;exact (r''.base (rV.bare.2.trans hgl) rV.bare.2.size).sub hle
end
section
variable {K:Frag}
theorem Zfm {a b:Int}{Q:QV} (hh:A.handled=none) (h:Q (.int (if b > a then b else a)) hp):CL (model PW W0) A E B env (.builtin "max") m [.int a,.int b] hp Q:=λs vs r hv=>by refine ad (Zbg hv) λv u V h1 h2=>?_;subst V;simp only[VR]at h1 h2;obtain ⟨t,rfl⟩:=h1;obtain ⟨t',rfl⟩:=h2;refine PySem.max_two_ints hh λh' tk k=>?_;obtain ⟨r',le⟩:=r.grown k tk;refine mkV r' le (?_) h;split <;> exact VR_int
theorem Zhn {a b:Int}{Q:QV} (hh:A.handled=none) (h:Q (.int (if b < a then b else a)) hp):CL (model PW W0) A E B env (.builtin "min") m [.int a,.int b] hp Q:=λs vs r hv=>by refine ad (Zbg hv) λv u V h1 h2=>?_;subst V;simp only[VR]at h1 h2;obtain ⟨t,rfl⟩:=h1;obtain ⟨t',rfl⟩:=h2;refine PySem.min_two_ints hh λh' tk k=>?_;obtain ⟨r',le⟩:=r.grown k tk;refine mkV r' le (?_) h;split <;> exact VR_int
end
section
variable {A:Around}{E:ET}{s:Shared}
theorem Zhq {l:Addr}{items:Array Value}{n:Nat}{k:Int}{t:Tok}{v:Value}{Q:Unit->Shared->Prop} (hl:IsL s.heap l items n) (h0 : 0<=k) (hj:k < items.size) (hfit:k < 2 ^ 63)
  (hQ:Q () { s with heap:=s.heap.update l (Obj.mapSeq (·.setIfInBounds k.toNat v)) }):wpAny (model PW W0) A (setItem (.ref l) (.int k t) v) Q E s:=by
 have hl':=hl.isList;unfold setItem;refine wpAny_holding ?_;refine wB (wpAny_sequenceKey hl'.typeIs (by decide) ?_);refine wB (wpAny_callSpecial?_slot (name:=Str.ofString "__setitem__") hl'.typeIs slot_list_setitem (wpAny_call_entry slot_list_setitem hl'.typeIs entry_list_setitem ?_ (args_list_setitem _ _ _)));show wpAny _ _ (Builtin.List.listSubscript? (.int k t) >>= _) _ _ s;refine wB (wpAny_listSubscript_int (fitsIndex_of h0 hfit) ?_);clear hfit;obtain ⟨j,rfl⟩:=Int.eq_ofNat_of_zero_le h0;have hj':j < items.size:=by (exact Zqf ‹_› ‹_›)
 have hx':items[j]?=some items[j]:=Array.getElem?_eq_getElem hj';show wpAny _ _ ((seqItemAt l j >>= λr=>pure (r.map (j,·))) >>= _) _ _ s;refine wB (wB (wpAny_seqItemAt (show s.heap.get? l=some _ from hl) rfl (wP ?_)));refine hx'▸?_;show wpAny _ _ (setSeqItemAt l j v >>= _) _ _ s;refine wB (wpAny_setSeqItemAt (show s.heap.get? l=some _ from hl) rfl ?_);exact wP ⟨.none,rfl,wP hQ⟩
theorem Zgl {l:Addr}{items:Array Value}{n:Nat}{t:Tok}{v:Value}{Q:Unit->Shared->Prop} (hl:IsL s.heap l items n) (hj : 0 < items.size)
  (hQ:Q () { s with heap:=s.heap.update l (Obj.mapSeq (·.setIfInBounds (items.size - 1) v)) }):wpAny (model PW W0) A (setItem (.ref l) (.int (-1) t) v) Q E s:=by
 have hl':=hl.isList;unfold setItem;refine wpAny_holding ?_;refine wB (wpAny_sequenceKey hl'.typeIs (by decide) ?_);refine wB (wpAny_callSpecial?_slot (name:=Str.ofString "__setitem__") hl'.typeIs slot_list_setitem (wpAny_call_entry slot_list_setitem hl'.typeIs entry_list_setitem ?_ (args_list_setitem _ _ _)));show wpAny _ _ (Builtin.List.listSubscript? (.int (-1) t) >>= _) _ _ s;refine wB (wpAny_listSubscript_int (fitsIndex_neg (by decide) (by decide)) ?_);have hidx:seqIndex? (-1) items.size=some (items.size - 1):=by rw[seqIndex_neg (by decide) (by lia)];congr 1;(exact F10 0x786681a73604103a 0x1000110100100011101011010101001011011001 rfl)
 have hx':items[items.size - 1]?=some (items[items.size - 1]'(by (exact Zb5 ‹_›))):=Array.getElem?_eq_getElem (by (exact Zb5 ‹_›));show wpAny _ _ ((Builtin.List.listItems (.ref l) >>= λxs=>pure ((seqIndex? (-1) xs.size).bind λi=>xs[i]?.map (i,·))) >>= _) _ _ s;refine wB (wB ?_);show wpAny _ _ (seqItems? (.ref l) >>= _) _ _ s;refine wB (wpAny_seqItems (show s.heap.get? l=some _ from hl) rfl (wP (wP ?_)));refine hidx▸?_;simp only[Option.bind_some,hx',Option.map_some];refine wB (wpAny_setSeqItemAt (show s.heap.get? l=some _ from hl) rfl ?_);exact wP ⟨.none,rfl,wP hQ⟩
end
theorem VRs.set {h:Heap}:∀ {xs:List AV}{vs:List Value}{i:Nat}{x:AV}{v:Value},VRs h xs vs->VR h x v->VRs h (xs.set i x) (vs.set i v)
 | [],_,_,_,_,e,_=>by simp only[VRs]at e;subst e;rfl
 | y :: xs,vs,0,x,v,e,hx=>by simp only[VRs]at e;obtain ⟨u,r,rfl,_,e3⟩:=e;dsimp only[List.set_cons_zero,VRs];exact ⟨v,r,rfl,hx,e3⟩
 | y :: xs,vs,i + 1,x,v,e,hx=>by simp only[VRs]at e;refine ad e λu r V e2 e3=>?_;clear e;subst V;dsimp only[List.set_cons_succ,VRs];exact ⟨u,_,rfl,e2,VRs.set e3 hx⟩
section
variable {K:Frag}
noncomputable def stored (xs:List AV) (k:Int) (v:AV):List AV:=if k = -1 then xs.set (xs.length - 1) v else xs.set k.toNat v
theorem Zer {o i:Expr} {pos}{v:AV}{Q:Loc->Hp->Prop}
  (h:EV (model PW W0) A E B env o m hp λov hp₁=>EV (model PW W0) A E B env i m hp₁ λiv hp₂=>∃ a xs k,ov = .ref a/\iv = .int k/\hp₂ a=some (.list xs)/\a≠env.locals/\((k = -1/\0 < xs.length)\/(0<=k/\k < xs.length/\k < 2 ^ 63))/\Q m (hp₂.set a (.list (stored xs k v)))):ASG (model PW W0) A E B env (.Subscript o i pos) v m hp Q:=λs u r hu=>by
 dsimp only[assign_Subscript];refine wB (wpAny_holding (h.use r λov s₁ av hp₁ r₁ le₁ hov q=>wB (wpAny_holding (q.use r₁ λiv sV bv hp₂ rV leV hiv x=>wB (wpAny_standAt (wB (wpAny_holding ?_)))))));refine hide λ_ Z=>?_;obtain ⟨a,xs,k,rfl,rfl,ha,haL,hk,q⟩:=x;simp only[VR]at hov hiv;subst hov;obtain ⟨t,rfl⟩:=hiv;refine am (rV.at ha haL) λvs n hl hvs=>?_;apply Z;clear Z;have hsz:vs.size=xs.length:=by refine Array.length_toList▸?_;exact hvs.length
 have huV:=hu.mono (le₁.trans leV);have fin:∀ j lst,stored xs k v=xs.set j v->wpAny (model PW W0) A (release lst []) (λ_ s'=>∃ m' hp',Rel B (hp'.set env.locals (.ns m')) s'/\ImmLe s.heap s'.heap/\Q m' hp') E { sV with heap:=sV.heap.update a (Obj.mapSeq (·.setIfInBounds j u)) }:=λj lst hj=>by
  have tt:=rV.turn (a:=a) (Hp.snt haL ha) (h':=sV.heap.update a (Obj.mapSeq (·.setIfInBounds j u))) (Heap.SameBut.update ..) (.list (stored xs k v))
   (λle=>⟨_,_,IsL.update hl (·.setIfInBounds j u),by rw[hj,Array.toList_setIfInBounds];exact VRs.set (hvs.mono le) (huV.mono le)⟩) sV.toks
  rw[Hp.sc _ _ _ (Ne.symm haL)]at tt;exact wpAny_release ⟨m,_,tt.1,(le₁.trans leV).trans tt.2,q⟩
 rcases hk with ⟨rfl,hpos⟩ | ⟨h0,hlt,hfit⟩
 .refine Zgl hl (by (exact F20 0x7044804408760 0x1110 rfl hsz hpos)) ?_;refine hsz▸?_;exact fin _ _ (by unfold stored;exact (if_pos rfl))
 .refine Zhq hl h0 (by rw[hsz];exact hlt) hfit (fin _ _ ?_);unfold stored;exact (if_neg (by (exact F01 0x604179270480 0x11 rfl h0)))
theorem Zc8 {o i value:Expr} {pos' pos}{Q:QX}
  (h:EV (model PW W0) A E B env value m hp λv hp₁=>ASG (model PW W0) A E B env (.Subscript o i pos') v m hp₁ λm₂ hp₂=>Q .next m₂ hp₂)
  (hs:swapsWith value (some (.Subscript o i pos')) pos.line env=pure false:=by rfl):EX (model PW W0) A E B env (.Assign [.Subscript o i pos'] value pos) m hp Q:=λs r=>by
 rw[exec_Assign_Subscript o i pos' value pos hs];refine wB (wpAny_standAt (wB (h.use r λu s₁ v hp₁ r₁ le₁ hu q=>wB ?_)));exact useA (q s₁ u r₁ hu) λ_ sV m₂ hp₂ rV leV q=>wP (mkX (af:=.next) rV (le₁.trans leV) rfl q)
end
section
variable {A:Around}{B:Shared}{env:Env}{m:Loc}{hp:Hp} {h0:Heap}{Cn:Con}{F:Hp->Prop}{n:Nat}{c:Code}{fs:List Frame}{K:Flow->Sem PySem.Fin}{H:Value->Sem PySem.Fin}
theorem Zje {st:Stmt}{rest:List Stmt} (Mid:Loc->Hp->Prop) (h1:EX (model PW W0) (A.over c fs) (λ_ _=>False) B env st m hp λf m' hp'=>f = .next/\Mid m' hp') (h2:∀ m' hp',Mid m' hp'->GS PW W0 A B env h0 Cn F n c fs K H rest m' hp') :
  GS PW W0 A B env h0 Cn F n c fs K H (st :: rest) m hp:=Zc0 (h1.mono λf m' hp' ⟨e,x⟩=>by subst e;exact h2 m' hp' x)
end
section
variable {K:Frag}
noncomputable def TSTs (M:Model) (A:Around) (E:ET) (B:Shared) (env:Env) (ifs:List Expr) (m:Loc) (hp:Hp) (Q:Bool->Hp->Prop):Prop:=
 ∀ s,Rel B (hp.set env.locals (.ns m)) s->wpAny M A (forIn ifs true λc r=>if r=true then do let ok <-isTrue c env (eval c env);pure (ForInStep.yield ok) else pure (ForInStep.yield r)) (λb s'=>∃ hp',Rel B (hp'.set env.locals (.ns m)) s'/\ImmLe s.heap s'.heap/\Q b hp') E s
theorem Zo8 {Q:Bool->Hp->Prop} (h:Q true hp):TSTs (model PW W0) A E B env [] m hp Q:=λs r=>wpAny_tests_nil ⟨hp,r,.refl _,h⟩
theorem Zdn {M:Model}{A:Around}{c:Code}{R:Result->Shared->Prop}{s:Shared} (hq:c.quiet=true) (I:Nat->Shared->Prop)
  (turn:∀ n s,I n s->∀ (W:Fin->Shared->Prop) (X:ET),(∀ f s',R (.ok f) s'->W (.done f) s')->(∀ m s',m < n->I m s'->W (.again c) s')->wpAny M (A.under c) (M.den c) W X s)
  (n:Nat) (h:I n s):codeAny M A c R s:=codeAny_loop hq I (λn s h=>wpAny_mono (turn n s h (λfin s'=>match fin with | .done f=>R (.ok f) s' | .again c'=>c'=c/\∃ m,m < n/\I m s') (λ_ _=>False) (λ_ _ x=>x) (λm s' hm hI=>⟨rfl,m,hm,hI⟩)) (λ_ _ x=>x) λ_ _ x=>x.elim) n h
noncomputable abbrev CInv (B:Shared) (L:Addr) (it acc:Addr) (n:Nat) (st:Nat->Obj->Prop) (I:Nat->List AV->Loc->Hp->Prop) (h₀:Heap) (k:Nat) (s':Shared):Prop:=
 ∃ i ys m₂ hp₂ ob,k=n - i/\i<=n/\ys.length<=i/\I i ys m₂ hp₂/\hp₂ it=some (.obj ob)/\hp₂ acc=some (.list ys)/\st i ob/\Rel B (hp₂.set L (.ns m₂)) s'/\ImmLe h₀ s'.heap
theorem Zm4 {elt target iter:Expr}{ifs:List Expr}{scope:Scope}{pos:Pos}{it acc:Addr}{n:Nat}{el:Nat->AV}{st:Nat->Obj->Prop}{I:Nat->List AV->Loc->Hp->Prop}{R:Result->Shared->Prop} (hL:it≠env.locals) (hA:acc≠env.locals) (hn:n<=5000)
  (imm:∀ i ob,st i ob->¬ Imm ob)
  (next:∀ i ys m₂ hp₂ s ob,i < n->I i ys m₂ hp₂->hp₂ it=some (.obj ob)->st i ob->Rel B (hp₂.set env.locals (.ns m₂)) s->∀ (E':ET) (W:Option Value->Shared->Prop),
   (∀ v h' t' ob',VR s.heap (el i) v->h'.get? it=some ob'->st (i + 1) ob'->Heap.SameBut it s.heap h'->W (some v) { s with heap:=h',toks:=t' })->wpAny (model PW W0) A (pyNext (.ref it)) W E' s)
  (stop:∀ ys m₂ hp₂ s ob,I n ys m₂ hp₂->hp₂ it=some (.obj ob)->st n ob->Rel B (hp₂.set env.locals (.ns m₂)) s->∀ (E':ET) (W:Option Value->Shared->Prop),
   (∀ h' t',Heap.ExtBut it s.heap h'->W none { s with heap:=h',toks:=t' })->wpAny (model PW W0) A (pyNext (.ref it)) W E' s)
  (hset:∀ i ys m₂ hp₂ ob,I i ys m₂ hp₂->I i ys m₂ (hp₂.set it (.obj ob)))
  (hacc:∀ i ys m₂ hp₂ zs,I i ys m₂ hp₂->I i ys m₂ (hp₂.set acc (.list zs)))
  (turn:∀ i ys m₂ hp₂ ob,i < n->I i ys m₂ hp₂->hp₂ it=some (.obj ob)->hp₂ acc=some (.list ys)->ASG (model PW W0) A (λ_ _=>False) B env target (el i) m₂ hp₂ λmX hpX=>TSTs (model PW W0) A (λ_ _=>False) B env ifs mX hpX λb hpj=>
   if b then EV (model PW W0) A (λ_ _=>False) B env elt mX hpj λv hpf=>I (i + 1) (ys ++ [v]) mX hpf/\hpf it=some (.obj ob)/\hpf acc=some (.list ys)
   else I (i + 1) ys mX hpj/\hpj it=some (.obj ob)/\hpj acc=some (.list ys)) {s₀:Shared}
  (hR:∀ ys m' hp' s',I n ys m' hp'->hp' acc=some (.list ys)->Rel B ((hp'.del it).set env.locals (.ns m')) s'->ImmLe s₀.heap s'.heap->R (.ok .next) s')
  {s:Shared}{ob:Obj} (h0:I 0 [] m hp) (hob:hp it=some (.obj ob)) (hac:hp acc=some (.list [])) (hst:st 0 ob) (rel:Rel B (hp.set env.locals (.ns m)) s) (leZ:ImmLe s₀.heap s.heap)
  (cl:∀ i ob,st i ob->∃ n,ob.cls = .type n/\["enumerate", "zip", "dict_itemiterator", "dict_reverseitemiterator", "odict_iterator", "itertools.zip_longest", "itertools.pairwise"].contains n=false) :
  codeAny (model PW W0) A (.compLoop (.ListComp elt [⟨target,iter,ifs,0⟩] scope pos) 0 (.ref it) (.ref acc) env) R s:=by
 refine Zdn rfl (CInv B env.locals it acc n st I s₀.heap) (λk s' x W X hD hG=>?_) n ⟨0,[],m,hp,ob,rfl,Nat.zero_le _,Nat.zero_le _,h0,hob,hac,hst,rel,leZ⟩;refine hide λ_ Z=>?_;obtain ⟨i,ys,m₂,hp₂,ob,rfl,hi,hyl,hI,hob,hac,hst,r,le⟩:=x;apply Z;clear Z;show wpAny _ A ((compTurn (.ListComp elt [⟨target,iter,ifs,0⟩] scope pos) 0 (.ref it) (.ref acc) env).onRaise (λx=>do noteFrame x env;theTreesLotGoes x)) _ _ s';refine wpAny_noted ?_;rw[compTurn_list];refine wB (wpAny_standAt (wB ?_));by_cases hlt:i < n
 .refine next i ys m₂ hp₂ s' ob hlt hI hob hst r _ _ λv h' t' ob' hv hg hst' hs=>?_
  refine hide λ_ Z=>?_;have t:=r.turn (a:=it) (o:=.obj ob) (Hp.snt hL hob) hs (.obj ob') (λ_=>⟨hg,imm _ _ hst'⟩) t';rw[Hp.sc _ _ _ (Ne.symm hL)]at t;refine aa (cl _ _ hst') λnm hcl hno=>?_;apply Z;clear Z;have hai:acc≠it:=λe=>by replace hac:=hob▸e▸hac;cases hac
  refine wB (Zby hg hcl hno ?_);have hturn:=turn i ys m₂ (hp₂.set it (.obj ob')) ob' hlt (hset _ _ _ _ _ hI) (Hp.ss ..) (Hp.snt hai hac);refine wB (wpAny_mono (hturn _ v t.1 (hv.mono t.2)) (λ_ sX x=>wB ?_) λ_ _ x=>x.elim);refine hide λ_ Z=>?_;refine ad x λmX hpX rX leX q=>?_;apply Z;clear Z;refine wpAny_mono (q sX rX) (λb sj x=>?_) λ_ _ x=>x.elim;refine hide λ_ Z=>?_;obtain ⟨hpj,rj,lej,q⟩:=x;apply Z;clear Z;cases b with
  | false=>
   rw[if_neg Bool.false_ne_true]at q;exact wP (hG _ _ (Zb5 hlt) ⟨i + 1,ys,mX,hpj,ob',rfl,hlt,Nat.le_succ_of_le hyl,q.1,q.2.1,q.2.2,hst',rj,((le.trans t.2).trans leX).trans lej⟩)
  | true=>
   rw[if_pos rfl]at q;refine wB (wB (wpAny_mono (q sj rj) (λx sf y=>wB ?_) λ_ _ x=>x.elim));refine hide λ_ Z=>?_;refine aq y λav hpf rf lef hx q=>?_;refine am (rf.at q.2.2 hA) λus nn hl hus=>?_;apply Z;clear Z;have e2:us.size=ys.length:=by refine Array.length_toList▸?_;exact hus.length
   refine wpAny_list_append_plain (items:=us) ⟨nn,hl⟩ (λh'' hpl hs'=>?_) (by rw[e2];have:=sizeLine_eq;lia);refine hide λ_ Z=>?_;obtain ⟨n',hl'⟩:=hpl;apply Z;clear Z;have tf:=rf.turn (a:=acc) (Hp.snt hA q.2.2) hs' (.list (ys ++ [av])) (λle=>⟨us.push x,n',hl',by rw[Array.toList_push];exact (hus.mono le).append (VRs.one (hx.mono le))⟩) sf.toks;rw[Hp.sc _ _ _ (Ne.symm hA)]at tf;exact wP (wP (hG _ _ (Zb5 hlt) ⟨i + 1,ys ++ [av],mX,_,ob',rfl,hlt,by rw[List.length_append];exact Nat.succ_le_succ hyl,hacc _ _ _ _ _ q.1,Hp.snt (Ne.symm hai) q.2.1,Hp.ss ..,hst',tf.1,((((le.trans t.2).trans leX).trans lej).trans lef).trans tf.2⟩))
 .have:i=n:=by (exact F20 0x876874208750 0x101110 rfl hi hlt)
  subst this;refine stop ys m₂ hp₂ s' ob hI hob hst r _ _ λh' t' he=>?_;refine hide λ_ Z=>?_;obtain ⟨r',le'⟩:=r.drop hob hL he t';apply Z;clear Z;exact wP (hD _ _ (hR ys m₂ hp₂ _ hI hac r' (le.trans le')))
theorem Rel.forget {s:Shared} (r:Rel B hp s) {C:Addr}{o:AO} (hC:hp C=some o) {h':Heap} (hs:Heap.SameBut C s.heap h') (t:Nat):Rel B (hp.del C) { s with heap:=h',toks:=t }/\ImmLe s.heap h':=by
 have he:=hs.extBut;have le:ImmLe s.heap h':=λb ob e i=>by
  by_cases hb:b=C
  .subst hb;exact absurd i ((r.objs _ _ hC).2.notImm _ e)
  .exact he b ob hb e
 refine ⟨⟨λb ob e=>he b ob (λhb=>?_) (r.keep b ob e),λa ob e=>?_,r.os,r.bare,by show _<=h'.objs.size;rw[hs.1];exact r.size⟩,le⟩
 .subst hb;exact absurd (Heap.lt_size e) (Nat.not_lt.mpr (r.objs _ _ hC).1)
 .by_cases ha:a=C
  .subst ha;simp[Hp.del]at e
  .rw [Hp.del_ne _ ha]at e;exact ⟨(r.objs a ob e).1,(r.objs a ob e).2.here le λo' e''=>he _ _ ha e''⟩
theorem Zh4 {hpX:Hp}{C:Addr}{m':Loc}{s':Shared} (hCe:C≠env.locals) (hc3:hpX C=none) (r1:Rel B ((hpX.set C (.ns m')).set env.locals (.ns m)) s') :
  ∃ mv,s'.heap.Ns C mv/\∀ h',Heap.SameBut C s'.heap h'->Rel B (hpX.set env.locals (.ns m)) { s' with heap:=h' }/\ImmLe s'.heap h':=by
 obtain ⟨mv,hn,_⟩:=(r1.objs C (.ns m') (Hp.snt hCe (Hp.ss ..))).2;refine ⟨mv,hn,λh' hs'=>?_⟩;have f:=r1.forget (C:=C) (o:=.ns m') (Hp.snt hCe (Hp.ss ..)) hs' s'.toks;refine ⟨f.1.sub λz o hz=>?_,f.2⟩;have hzC:z≠C:=λe=>by rw[e,Hp.sn _ _ hCe,hc3]at hz;cases hz
 rw[Hp.del_ne _ hzC];by_cases hze:z=env.locals
 .subst hze;rw[Hp.ss]at hz ⊢;exact hz
 .rw [Hp.sn _ _ hze]at hz;exact Hp.snt hze (Hp.snt hzC hz)
structure Fr (B:Shared) (hp:Hp) (L:Addr) (m:Loc) (s₁ sV:Shared) (it acc C:Addr) (itob:Obj) (ao:AO):Prop where
 a1:hp it=none
 a2:it≠L
 a3:hp acc=none
 a4:acc≠L
 a5:acc≠it
 a6:hp C=none
 a7:C≠L
 a8:C≠it
 a9:C≠acc
 rel:Rel B ((((hp.set L (.ns m)).set it (.obj itob)).set acc ao).set C (.ns λ_=>none)) sV
 le:ImmLe s₁.heap sV.heap
 at_:sV.heap.get? it=some itob
theorem Fr.mk' {s₁:Shared}{it acc C:Addr}{itob:Obj}{ao:AO} {H2 h₁:Heap}{t:Nat} (h1:hp it=none) (h2:it≠env.locals) (h3:(hp.set it (.obj itob)) acc=none) (h4:acc≠env.locals)
  (r2:Rel B (((hp.set it (.obj itob)).set acc ao).set env.locals (.ns m)) { s₁ with heap:=H2 }) (le:ImmLe s₁.heap H2) (hC:H2.objs.size=C) (hns:h₁.Ns C λ_=>none) (kZ:∀ b o,H2.get? b=some o->h₁.get? b=some o) (hz:h₁.objs.size=H2.objs.size + 1) :
  Fr B hp env.locals m s₁ { s₁ with heap:=h₁,toks:=t } it acc C itob ao:=by
 have fr:(((hp.set it (.obj itob)).set acc ao).set env.locals (.ns m)) C=none:=by refine hC▸?_;exact r2.fresh
 have a5:acc≠it:=λe=>by rw[e,Hp.ss]at h3;cases h3
 have n1:C≠env.locals:=λe=>by rw[e,Hp.ss]at fr;cases fr
 rw[Hp.sn _ _ n1]at fr;have n2:C≠acc:=λe=>by rw[e,Hp.ss]at fr;cases fr
 rw[Hp.sn _ _ n2]at fr;have n3:C≠it:=λe=>by rw[e,Hp.ss]at fr;cases fr
 rw[Hp.sn _ _ n3]at fr;rw[Hp.sc _ _ _ h4,Hp.sc _ _ _ h2]at r2;have rel:Rel B ((((hp.set env.locals (.ns m)).set it (.obj itob)).set acc ao).set C (.ns λ_=>none)) { s₁ with heap:=h₁,toks:=t }:=by
  refine ⟨λb o e=>kZ _ _ (r2.keep b o e),λz o' e=>?_,r2.os,r2.bare,by show _<=h₁.objs.size;rw[hz];exact Nat.le_succ_of_le r2.size⟩;by_cases hz:z=C
  .subst hz;rw[Hp.ss]at e;cases e;exact ⟨by refine hC▸?_;exact r2.size,_,hns,⟨λx v e=>(by cases e),λx _=>rfl⟩⟩
  .rw [Hp.sn _ _ hz]at e;exact ⟨(r2.objs z o' e).1,(r2.objs z o' e).2.here (ImmLe.keep kZ) λo'' e=>kZ _ _ e⟩
 exact ⟨h1,h2,Hp.snr a5 h3,h4,a5,fr,n1,n3,n2,rel,le.trans (ImmLe.keep kZ),(rel.objs it (.obj itob) (Hp.snt (Ne.symm n3) (Hp.snt (Ne.symm a5) (Hp.ss ..)))).2.1⟩
theorem Zjp {scope:Scope}{cl:List (PySem.Str × Addr)} {s₁:Shared}{itob accob:Obj}{ao:AO}{W:Env->Shared->Prop} (hcell:∀ y ∈ scope.names,y.2≠.cell) (hkind:scope.kind = .function) (r₁:Rel B (hp.set env.locals (.ns m)) s₁) (hfr:itob.isFreed=false) (ni:¬ Imm itob)
  (ho:OR ((s₁.heap.push itob).push accob) (s₁.heap.push itob).objs.size ao)
  (k:∀ C sV,Fr B hp env.locals m s₁ sV s₁.heap.objs.size (s₁.heap.push itob).objs.size C itob ao->W (newEnv scope C env.globals cl env.qual none .none (some env) env.builtins) sV) :
  wpAny (model PW W0) A (newFunctionEnv scope env.globals cl [] env.qual none .none (some env)) W E { s₁ with heap:=(s₁.heap.push itob).push accob }:=by
 have n1:=r₁.newAt itob (.obj itob) ⟨Heap.get?_push_size _ hfr,ni⟩;have n2:=Rel.newAt n1.1 accob ao ho;refine wpAny_newFunctionEnv hcell (λy hy=>by cases hy) (λh₁ hns₁ hsb₁=>k _ _ (Fr.mk' n1.2.1 n1.2.2.1 n2.2.1 n2.2.2.1 n2.1 (n1.2.2.2.trans n2.2.2.2) rfl hns₁ (λb o e=>hsb₁.extBut b o (Nat.ne_of_lt (Heap.lt_size e)) (Heap.get?_push_of_some _ e)) (by rw[hsb₁.1,Heap.size_push]))) hkind
theorem Zqk {hpX hp':Hp}{C it:Addr}{m':Loc} (hCe:C≠env.locals) (hc3:hpX C=none) (hle:Hp.Le (hpX.set env.locals (.ns m)) (hp'.del it)) (z:Addr) (o:AO) (hz:((hpX.set C (.ns m')).set env.locals (.ns m)) z=some o):((hp'.del it).set C (.ns m')) z=some o:=by
 by_cases hzC:z=C
 .subst hzC;rw[Hp.sn _ _ hCe,Hp.ss]at hz;rw[Hp.ss];exact hz
 .rw [Hp.sn _ _ hzC];refine hle _ _ ?_;by_cases hze:z=env.locals
  .subst hze;rw[Hp.ss]at hz ⊢;exact hz
  .rw [Hp.sn _ _ hze,Hp.sn _ _ hzC]at hz;exact Hp.snt hze hz
theorem Zo1 {elt target iter:Expr}{ifs:List Expr}{scope:Scope}{pos:Pos}{cl:List (PySem.Str × Addr)}{use:Option (Value->Sem Unit)}{PP:ET} {s s₁:Shared}{itob:Obj}{n:Nat}{el:Nat->AV}{st:Nat->Obj->Prop}{F:Addr->Hp->Prop}
  (hcell:∀ y ∈ scope.names,y.2≠.cell) (hkind:scope.kind = .function) (hn:n<=5000) (imm:∀ i ob,st i ob->¬ Imm ob) (st0:st 0 itob) (hfr:itob.isFreed=false)
  (clst:∀ i ob,st i ob->∃ n,ob.cls = .type n/\["enumerate", "zip", "dict_itemiterator", "dict_reverseitemiterator", "odict_iterator", "itertools.zip_longest", "itertools.pairwise"].contains n=false)
  (r₁:Rel B (hp.set env.locals (.ns m)) s₁) (le₁:ImmLe s.heap s₁.heap)
  (hpi:∀ (it:Addr) (s':Shared) (E':ET) (W:ET),s'.heap.get? it=some itob->W (.ref it) s'->wpAny (model PW W0) A (pyIter (.ref it)) W E' s')
  (hpost:∀ hpX acc C m' s',C≠env.locals->hpX C=none->Rel B ((hpX.set C (.ns m')).set env.locals (.ns m)) s'->ImmLe s.heap s'.heap->F acc hpX->compPost (model PW W0) A E use PP (.ref acc) C (.ok .next) s')
  (x:∀ it acc C,hp it=none->it≠env.locals->hp acc=none->acc≠env.locals->acc≠it->hp C=none->C≠env.locals->C≠it->C≠acc ->
   ∃ I:Nat->List AV->Loc->Hp->Prop,(∀ ob,I 0 [] (λ_=>none) (((hp.set env.locals (.ns m)).set it (.obj ob)).set acc (.list [])))/\(∀ i ys m₂ hp₂ ob,I i ys m₂ hp₂->I i ys m₂ (hp₂.set it (.obj ob)))/\(∀ i ys m₂ hp₂ zs,I i ys m₂ hp₂->I i ys m₂ (hp₂.set acc (.list zs))) /\
    (∀ i ys m₂ hp₂ s' ob,i < n->I i ys m₂ hp₂->hp₂ it=some (.obj ob)->st i ob->Rel B (hp₂.set C (.ns m₂)) s'->s'.heap.get? it=some ob->∀ (E':ET) (W:Option Value->Shared->Prop),
     (∀ v h' t' ob',VR s'.heap (el i) v->h'.get? it=some ob'->st (i + 1) ob'->Heap.SameBut it s'.heap h'->W (some v) { s' with heap:=h',toks:=t' })->wpAny (model PW W0) A (pyNext (.ref it)) W E' s') /\
    (∀ ys m₂ hp₂ s' ob,I n ys m₂ hp₂->hp₂ it=some (.obj ob)->st n ob->Rel B (hp₂.set C (.ns m₂)) s'->s'.heap.get? it=some ob->∀ (E':ET) (W:Option Value->Shared->Prop),
     (∀ h' t',Heap.ExtBut it s'.heap h'->W none { s' with heap:=h',toks:=t' })->wpAny (model PW W0) A (pyNext (.ref it)) W E' s') /\
    (∀ i ys m₂ hp₂ ob,i < n->I i ys m₂ hp₂->hp₂ it=some (.obj ob)->hp₂ acc=some (.list ys)->ASG (model PW W0) A (λ_ _=>False) B (compEnvC scope cl C env) target (el i) m₂ hp₂ λmX hpX=>TSTs (model PW W0) A (λ_ _=>False) B (compEnvC scope cl C env) ifs mX hpX λb hpj=>
     if b then EV (model PW W0) A (λ_ _=>False) B (compEnvC scope cl C env) elt mX hpj λv hpf=>I (i + 1) (ys ++ [v]) mX hpf/\hpf it=some (.obj ob)/\hpf acc=some (.list ys)
     else I (i + 1) ys mX hpj/\hpj it=some (.obj ob)/\hpj acc=some (.list ys)) /\
    (∀ ys m₂ hp₂,I n ys m₂ hp₂->hp₂ acc=some (.list ys)->∃ hpX,Hp.Le (hpX.set env.locals (.ns m)) (hp₂.del it)/\hpX C=none/\F acc hpX)) :
  wpAny (model PW W0) A (newList []) (λacc sX=>wpAny (model PW W0) A (newFunctionEnv scope env.globals cl [] env.qual none .none (some env)) (λcenv sj=>codeAny (model PW W0) A (.compStart (.ListComp elt [⟨target,iter,ifs,0⟩] scope pos) 0 (.ref s₁.heap.objs.size) acc { cenv with scope:=relabel scope env }) (compPost (model PW W0) A E use PP acc cenv.locals) sj) E sX) E { s₁ with heap:=s₁.heap.push itob }:=by
 refine wpAny_newObj_type (Zjp (ao:=.list []) hcell hkind r₁ hfr (imm _ _ st0) ⟨#[],0,IsL.new _ _,by rfl⟩ λC sV f=>?_);refine hide λ_ Z=>?_;refine ba (x _ _ C f.a1 f.a2 f.a3 f.a4 f.a5 f.a6 f.a7 f.a8 f.a9) λI i0 iset iacc inext istop iturn ifin=>?_;apply Z;clear Z;have loop:codeAny (model PW W0) A (.compLoop (.ListComp elt [⟨target,iter,ifs,0⟩] scope pos) 0 (.ref s₁.heap.objs.size) (.ref (s₁.heap.push itob).objs.size) (compEnvC scope cl C env)) (compPost (model PW W0) A E use PP (.ref (s₁.heap.push itob).objs.size) C) sV:=by refine Zm4 (n:=n) (env:=compEnvC scope cl C env) (el:=el) (st:=st) (I:=I) (s₀:=s) (Ne.symm f.a8) (Ne.symm f.a9) hn imm (λi ys m₂ hp₂ s' ob hi hI hob hst r' E' W k=>inext i ys m₂ hp₂ s' ob hi hI hob hst r' (r'.at hob (Ne.symm f.a8)).1 E' W k) (λys m₂ hp₂ s' ob hI hob hst r' E' W k=>istop ys m₂ hp₂ s' ob hI hob hst r' (r'.at hob (Ne.symm f.a8)).1 E' W k) iset iacc iturn (λys m' hp' s' hI hac r' le'=>?_) (i0 _) (Hp.snt (Ne.symm f.a5) (Hp.ss ..)) (Hp.ss ..) st0 f.rel (le₁.trans f.le) clst;refine ae (ifin ys m' hp' hI hac) λhpX hle3 hc3 q=>?_;exact hpost hpX _ C m' s' f.a7 hc3 (r'.sub (Zqk f.a7 hc3 hle3)) le' q
 exact codeAny_compStart_list loop (hpi _ _ _ _ f.at_ loop)
theorem Zgm {s:Shared}{y:PySem.Str}{py:Pos}{Q:QX} (hly:env.kindOf y=some .local) (hky:(env.scope.kind == .class || (env.scope.kind == .module && env.locals != env.globals))=false) (hpX:Hp) (acc C:Addr) (m':Loc) (s':Shared) (hCe:C≠env.locals) (hc3:hpX C=none) (r1:Rel B ((hpX.set C (.ns m')).set env.locals (.ns m)) s') (le':ImmLe s.heap s'.heap) (q:Q .next (upd m y (.ref acc)) hpX) :
  compPost (model PW W0) A E (some (assign (.Name y py) env)) (λ_ s'=>wpAny (model PW W0) A (pure ():Sem Unit) (λ_ s'=>wpAny (model PW W0) A (pure Flow.next) (λfl s'=>∃ af m' hp',Rel B (hp'.set env.locals (.ns m')) s'/\ImmLe s.heap s'.heap/\FR s'.heap af fl/\Q af m' hp') E s') E s') (.ref acc) C (.ok .next) s':=by
 refine PyProof.Rows.assign_Name (Zb6 r1 (VR_ref (a:=acc)) (λsV rV leV=>?_) hly hky);refine aa (Zh4 hCe hc3 rV) λmv hn k=>?_;exact ⟨mv,hn,λh' hs'=>wP (wP ⟨.next,_,hpX,(k h' hs').1,(le'.trans leV).trans (k h' hs').2,rfl,q⟩)⟩
theorem Zlb {a it C:Addr}{xs:List AV}{i:Nat} {m₂:Loc} {hp₂:Hp}{s':Shared}{ob:Obj} (hi:i < xs.length) (hl:Lst B hp₂ C a xs) (hst:ob.cls = .type "list_iterator" /\ ob.data = .fields #[.ref a,.int i 0]) (r':Rel B (hp₂.set C (.ns m₂)) s') (hg:s'.heap.get? it=some ob) (hC:C=env.locals)
  (E':ET) (W:Option Value->Shared->Prop) (k:∀ v h' t' ob',VR s'.heap (xs.getD i .none) v->h'.get? it=some ob'->(ob'.cls = .type "list_iterator" /\ ob'.data = .fields #[.ref a,.int ((i + 1:Nat):Int) 0])->Heap.SameBut it s'.heap h'->W (some v) { s' with heap:=h',toks:=t' }) :
  wpAny (model PW W0) A (pyNext (.ref it)) W E' s':=by
 refine hide λ_ Z=>?_;subst hC;refine aa (r'.lst hl) λvs' hl' hvs'=>?_;refine aa (hvs'.get (i:=i) (x:=xs.getD i .none) (by simp[List.getD,List.getElem?_eq_getElem hi])) λv hv hxv=>?_;apply Z;clear Z;refine wpAny_pyNext_list_item (i:=i) ⟨ob,hg,hst.1,hst.2⟩ hl' (by simpa using hv) λh' hit' hs'=>?_;refine hide λ_ Z=>?_;refine ae hit' λob' hg' hc' hd'=>?_;apply Z;clear Z;exact k v h' s'.toks ob' hxv hg' ⟨hc',hd'⟩ hs'
theorem Zla {a it C:Addr}{xs:List AV} {m₂:Loc} {hp₂:Hp}{s':Shared}{ob:Obj} (hh:A.handled=none) (hl:Lst B hp₂ C a xs) (hst:ob.cls = .type "list_iterator" /\ ob.data = .fields #[.ref a,.int xs.length 0]) (r':Rel B (hp₂.set C (.ns m₂)) s') (hg:s'.heap.get? it=some ob) (hC:C=env.locals)
  (E':ET) (W:Option Value->Shared->Prop) (k:∀ h' t',Heap.ExtBut it s'.heap h'->W none { s' with heap:=h',toks:=t' }):wpAny (model PW W0) A (pyNext (.ref it)) W E' s':=by
 refine hide λ_ Z=>?_;subst hC;refine aa (r'.lst hl) λvs' hl' hvs'=>?_;apply Z;clear Z;refine wpAny_pyNext_list_end hh (i:=xs.length) ⟨ob,hg,hst.1,hst.2⟩ hl' ?_ λh' he=>k h' s'.toks he;have e:vs'.size=xs.length:=by refine Array.length_toList▸?_;exact hvs'.length
 exact Array.getElem?_eq_none (by (exact F20 0x8758760 0x101 rfl e))
end
section
variable {K:Frag}
end
noncomputable def Zbb (id:String) (a:Addr):Obj:={ cls:=.type "builtin_function_or_method",data:=.fields #[.builtin id,.ref a] }
theorem bndOb_notImm {id:String}{a:Addr}:¬ Imm (Zbb id a):=by rintro ⟨_,_,_,e⟩;cases e
theorem Zgv:entryFor table "method_descriptor.__get__" = some Builtin.«method_descriptor.__get__»:=entryFor_of_tree (by kernel_rfl)
theorem mdg_slot:Slot "method_descriptor" "__get__" "method_descriptor.__get__" :=
 .of (owner := "method_descriptor") (n := "__get__") (by rw[typeLookup_type,builtinLookup_eq_fast];kernel_rfl) (by decide +kernel) (by decide +kernel) (by decide +kernel)
  (by exact .inl (by decide +kernel)) (by rw[isSubtype_type];kernel_rfl)
theorem Ziv (a b c:Value):argsOk "method_descriptor.__get__" ⟨[a,b,c],[]⟩:=by unfold argsOk;kernel_rfl
theorem Zod:typeLookup (.type "method_descriptor") (PySem.Str.ofString "__set__")=pure none:=by rw[typeLookup_type,builtinLookup_eq_fast];kernel_rfl
theorem Zoe:typeLookup (.type "method_descriptor") (PySem.Str.ofString "__delete__")=pure none:=by rw[typeLookup_type,builtinLookup_eq_fast];kernel_rfl
structure BndOk (T:String) (name:PySem.Str) (id gid:String):Prop where
 slot:Slot T name id
 ty:typeOf (.builtin id)=pure (.type "method_descriptor")
 ga:Slot T "__getattribute__" gid
 gn:(Value.builtin gid == Value.builtin "object.__getattribute__")=false
 ge:entryFor table gid=some Builtin.«object.__getattribute__»
 gargs:∀ x y,argsOk gid ⟨[x,y],[]⟩
 hook:typeLookup (.type T) (PySem.Str.ofString "__getattr__")=pure none
 plainName:((["__module__", "__name__", "__qualname__", "__doc__", "__annotations__"]:List PySem.Str).contains name)=false
 told:Manifest.toldItsClass.contains id=false
section
variable {A:Around}{E:ET}{s:Shared}
theorem Zn7 {T:String}{name:PySem.Str}{id gid:String}{a:Addr}{o:Obj}{Q:Builtin.ObjectAttr.Found->Shared->Prop} (b:BndOk T name id gid) (ho:s.heap.get? a=some o) (hc:o.cls = .type T) (hd:o.dict=none) (hn:∀ c,o.data≠.cls c)
  (h:Q (.bind (.builtin "method_descriptor.__get__") (.builtin id)) s):wpAny (model PW W0) A (Builtin.ObjectAttr.find (.ref a) (.type T) name) Q E s:=by
 unfold Builtin.ObjectAttr.find;refine wB (wpAny_of_eq b.slot.lookup (wB ?_));show wpAny _ _ (specialOf (.builtin id) "__get__") _ _ s;unfold specialOf;refine wB (wpAny_of_eq b.ty (wpAny_of_eq mdg_slot.lookup ?_));refine wB ?_;show wpAny _ _ (Builtin.ObjectAttr.takesStores (.builtin id) >>= _) _ _ s;refine wB ?_;delta Builtin.ObjectAttr.takesStores specialOf;refine wB (wB (wpAny_of_eq b.ty (wpAny_of_eq Zod ?_)));simp only[Option.isSome_none,Bool.false_eq_true,if_false];refine wB (wB (wpAny_of_eq b.ty (wpAny_of_eq Zoe ?_)));refine wP ?_;simp only[Option.isSome_none,Bool.false_eq_true,if_false];refine wP ?_;dsimp only;unfold Builtin.ObjectAttr.ownThenClass;refine wB ?_;show wpAny _ _ (Builtin.ObjectAttr.ownDict a >>= _) _ _ s;refine wB ?_;delta Builtin.ObjectAttr.ownDict loadHead;refine wB (wpAny_loadPart ho ?_);have hin:wpAny (model PW W0) A (instanceDict a false) (λd s'=>d=none/\s'=s) E s:=by unfold instanceDict;refine wB (wpAny_loadPart ho ?_);refine hc.symm▸hd.symm▸?_;exact wP ⟨rfl,rfl⟩
 have fin:wpAny (model PW W0) A (Builtin.ObjectAttr.inDict name none) (λr s'=>wpAny (model PW W0) A (match r with | some v=>(do rule "getattr.instance-dict";pure (.value v)) | none=>(do Builtin.ObjectAttr.copiedAttributeGuard name (.ref a);Builtin.ObjectAttr.byTheClass (some (.builtin id)) (some (.builtin "method_descriptor.__get__")))) Q E s') E s:=by refine wP ?_;dsimp only;refine wB ?_;unfold Builtin.ObjectAttr.copiedAttributeGuard;dsimp only;refine b.plainName▸?_;refine wP ?_;exact wB (wpAny_rule (wP h))
 have post:∀ d s',d=none/\s'=s->wpAny (model PW W0) A (Builtin.ObjectAttr.inDict name d) (λr s'=>wpAny (model PW W0) A (match r with | some v=>(do rule "getattr.instance-dict";pure (.value v)) | none=>(do Builtin.ObjectAttr.copiedAttributeGuard name (.ref a);Builtin.ObjectAttr.byTheClass (some (.builtin id)) (some (.builtin "method_descriptor.__get__")))) Q E s') E s':=by rintro d s' ⟨rfl,rfl⟩;exact fin
 obtain ⟨oc,od,odt,osl⟩:=o;cases odt with
 | cls c=>exact absurd rfl (hn c)
 | _=>exact wpAny_mono hin post λ_ _ x=>x
theorem Zdl {T:String}{name:PySem.Str}{id gid:String}{a:Addr}{o:Obj}{Q:ET} (b:BndOk T name id gid) (ho:s.heap.get? a=some o) (hc:o.cls = .type T) (hd:o.dict=none) (hn:∀ c,o.data≠.cls c)
  (hck:∀ {s:Shared}{o:Obj}{Q:ET},s.heap.get? a=some o->o.cls = .type T->Q (.ref s.heap.objs.size) { s with heap:=s.heap.push (Zbb id a) }->wpAny (model PW W0) A.in1 (call (.builtin "method_descriptor.__get__") [.builtin id,.ref a,.type T]) Q (λ_ _=>False) s)
  (h:Q (.ref s.heap.objs.size) { s with heap:=s.heap.push (Zbb id a),toks:=s.toks + 1 }):wpAny (model PW W0) A (getAttr (.ref a) name true) Q E s:=by
 unfold getAttr;refine wB (wpAny_mkText ?_);unfold getAttrBy;have hT:({ s with toks:=s.toks + 1 }:Shared).TypeIs (.ref a) T:=⟨o,ho,hc⟩;refine wpAny_holding (wB (wpAny_typeOf hT (wB (wpAny_of_eq b.ga.lookup ?_))));dsimp only [onTheHeap];simp;delta getAttrByItsOwn hookBefore;dsimp only [onTheHeap];simp only[Bool.false_eq_true,if_false];refine wB (wP (wB (wpAny_attempt (wpAny_holding ?_))));unfold callGetattribute;dsimp only [onTheHeap];simp;unfold boundAndCalled;refine wB (wpAny_of_eq (b.ga.bind _) ?_);refine wpAny_call_entry b.ga hT b.ge ?_ (b.gargs _ _);unfold Builtin.«object.__getattribute__»;refine wB (wpAny_of_eq (a:=(.ref a,[.str name s.toks])) rfl ?_);dsimp only;refine wB (wpAny_of_eq (a:=name) rfl (wB (wpAny_typeOf hT (wB (Zn7 (s:={ s with toks:=s.toks + 1 }) b ho hc hd hn ?_)))));dsimp only;unfold Builtin.ObjectAttr.bindTo;refine wB (wpAny_holding (wpAny_mono (hck (s:={ s with toks:=s.toks + 1 }) ho hc (Q:=λv s'=>v = .ref s.heap.objs.size/\s'={ s with heap:=s.heap.push (Zbb id a),toks:=s.toks + 1 }) ⟨rfl,rfl⟩) (λv s' x=>?_) λ_ _ x=>x.elim));obtain ⟨rfl,rfl⟩:=x;refine wP ⟨_,rfl,?_⟩;exact wP h

theorem Zgu {a:Addr}{s:Shared}{o:Obj}{Q:ET} (ho:s.heap.get? a=some o) (hc:o.cls = .type "dict") (h:Q (.ref s.heap.objs.size) { s with heap:=s.heap.push (Zbb "dict.get" a) }) :
  wpAny (model PW W0) A (call (.builtin "method_descriptor.__get__") [.builtin "dict.get",.ref a,.type "dict"]) Q E s:=by
 have hty:typeOf (.builtin "dict.get")=pure (.type "method_descriptor"):=by show builtinType _=_;rw[builtinType_eq_fast];kernel_rfl
 refine wpAny_call_entry mdg_slot hty Zgv ?_ (Ziv _ _ _);unfold Builtin.«method_descriptor.__get__»;refine wB (wpAny_of_eq (a:=(.builtin "dict.get",some (.ref a),some (.type "dict"))) (by rfl) ?_);dsimp only;refine (show Manifest.toldItsClass.contains "dict.get" = false from by decide +kernel)▸?_;simp;refine wB (m:=_) ?_;refine wB (wpAny_of_eq (a:=(PySem.Str.ofString "get",.type "dict")) (by rfl) ?_);dsimp only;refine wB (wpAny_isInstance (T := "dict") (b:=true) ⟨o,ho,hc⟩ (by rw[isSubtype_type];kernel_rfl) ?_);simp;refine wP ?_;unfold newFields;refine wB (wpAny_newObj_type (wP ⟨_,rfl,h⟩))
theorem Zo4:BndOk "dict" (PySem.Str.ofString "get") "dict.get" "dict.__getattribute__" where
 gn:=by decide +kernel
 ge:=entryFor_alias (id' := "object.__getattribute__") (by kernel_rfl) rfl (by decide +kernel) (by kernel_rfl)
 gargs:=λ_ _=>by unfold argsOk;kernel_rfl
 slot:=.of (owner := "dict") (n := "get") (by rw[typeLookup_type,builtinLookup_eq_fast];kernel_rfl) (by decide +kernel) (by decide +kernel) (by decide +kernel)
  (by exact .inr (by decide +kernel)) (by rw[isSubtype_type];kernel_rfl)
 ty:=by show builtinType _=_;rw[builtinType_eq_fast];kernel_rfl
 ga:=.of (owner := "dict") (n := "__getattribute__") (by rw[typeLookup_type,builtinLookup_eq_fast];kernel_rfl) (by decide +kernel) (by decide +kernel) (by decide +kernel)
  (by exact .inl (by decide +kernel)) (by rw[isSubtype_type];kernel_rfl)
 hook:=by rw[typeLookup_type,builtinLookup_eq_fast];kernel_rfl
 plainName:=by decide +kernel
 told:=by decide +kernel

theorem Zfv {a:Addr}{s:Shared}{o:Obj}{Q:ET} (ho:s.heap.get? a=some o) (hc:o.cls = .type "set") (h:Q (.ref s.heap.objs.size) { s with heap:=s.heap.push (Zbb "set.__contains__" a) }) :
  wpAny (model PW W0) A (call (.builtin "method_descriptor.__get__") [.builtin "set.__contains__",.ref a,.type "set"]) Q E s:=by
 have hty:typeOf (.builtin "set.__contains__")=pure (.type "method_descriptor"):=by show builtinType _=_;rw[builtinType_eq_fast];kernel_rfl
 refine wpAny_call_entry mdg_slot hty Zgv ?_ (Ziv _ _ _);unfold Builtin.«method_descriptor.__get__»;refine wB (wpAny_of_eq (a:=(.builtin "set.__contains__",some (.ref a),some (.type "set"))) (by rfl) ?_);dsimp only;refine (show Manifest.toldItsClass.contains "set.__contains__" = false from by decide +kernel)▸?_;simp;refine wB (m:=_) ?_;refine wB (wpAny_of_eq (a:=(PySem.Str.ofString "__contains__",.type "set")) (by rfl) ?_);dsimp only;refine wB (wpAny_isInstance (T := "set") (b:=true) ⟨o,ho,hc⟩ (by rw[isSubtype_type];kernel_rfl) ?_);simp;refine wP ?_;unfold newFields;refine wB (wpAny_newObj_type (wP ⟨_,rfl,h⟩))
theorem Zmh:BndOk "set" (PySem.Str.ofString "__contains__") "set.__contains__" "set.__getattribute__" where
 gn:=by decide +kernel
 ge:=entryFor_alias (id' := "object.__getattribute__") (by kernel_rfl) rfl (by decide +kernel) (by kernel_rfl)
 gargs:=λ_ _=>by unfold argsOk;kernel_rfl
 slot:=.of (owner := "set") (n := "__contains__") (by rw[typeLookup_type,builtinLookup_eq_fast];kernel_rfl) (by decide +kernel) (by decide +kernel) (by decide +kernel)
  (by exact .inr (by decide +kernel)) (by rw[isSubtype_type];kernel_rfl)
 ty:=by show builtinType _=_;rw[builtinType_eq_fast];kernel_rfl
 ga:=.of (owner := "set") (n := "__getattribute__") (by rw[typeLookup_type,builtinLookup_eq_fast];kernel_rfl) (by decide +kernel) (by decide +kernel) (by decide +kernel)
  (by exact .inl (by decide +kernel)) (by rw[isSubtype_type];kernel_rfl)
 hook:=by rw[typeLookup_type,builtinLookup_eq_fast];kernel_rfl
 plainName:=by decide +kernel
 told:=by decide +kernel

end
theorem IPairs.pairs:∀ {es:List DictEntry}{ps:List (Int × Value)},IPairs es ps->Pairs (intKind PW W0) es ps
 | [],ps,h=>by simp only[IPairs]at h;subst h;exact .nil
 | e :: es,ps,h=>by simp only[IPairs]at h;refine aq h λkv r V h1 h2 h3=>?_;clear h;subst V;exact .cons h1 h2 (IPairs.pairs h3)
theorem IPairs.of {es:List DictEntry}{ps:List (Int × Value)} (h:Pairs (intKind PW W0) es ps):IPairs es ps:=by
 induction h with
 | nil=>rfl
 | cons h1 h2 _ ih=>simp only[IPairs];exact ⟨_,_,rfl,h1,h2,ih⟩
theorem IDict.of {h:Heap}{a:Addr}{ps:List (Int × Value)} (x:h.DictOf (intKind PW W0) a ps):IDict h a ps:=
 x.imp λ_=>.imp λ_=>.imp λ_=>.imp_right (.imp_right (.imp_right (.imp_right (.imp_left IPairs.of))))
theorem IDict.dictOf {h:Heap}{a:Addr}{ps:List (Int × Value)} (x:IDict h a ps) (_:Program) (_:World):h.DictOf (intKind PW W0) a ps:=
 x.imp λ_=>.imp λ_=>.imp λ_=>.imp_right (.imp_right (.imp_right (.imp_right (.imp_left (·.pairs)))))
noncomputable def dget (kvs:List (Int × AV)) (k:Int):Option AV:=(kvs.find? λkv=>kv.1=k).map (·.2)
noncomputable def dput (kvs:List (Int × AV)) (k:Int) (v:AV):List (Int × AV):=
 if kvs.any (λkv=>kv.1=k) then kvs.map (λkv=>if kv.1=k then (kv.1,v) else kv) else kvs ++ [(k,v)]
noncomputable def KVR (h:Heap) (kvs:List (Int × AV)) (ps:List (Int × Value)):Prop:=ps.map (·.1)=kvs.map (·.1)/\VRs h (kvs.map (·.2)) (ps.map (·.2))
theorem KVR.mono {h h':Heap} (le:ImmLe h h') {kvs:List (Int × AV)}{ps:List (Int × Value)} (x:KVR h kvs ps):KVR h' kvs ps:=⟨x.1,x.2.mono le⟩
theorem KVR.length {h:Heap}{kvs:List (Int × AV)}{ps:List (Int × Value)} (x:KVR h kvs ps):ps.length=kvs.length:=by have:=congrArg List.length x.1;simpa using this
theorem KVR.cons {h:Heap}{k:Int}{v:AV}{kvs:List (Int × AV)}{ps:List (Int × Value)} (x:KVR h ((k,v) :: kvs) ps):∃ u r,ps=(k,u) :: r/\VR h v u/\KVR h kvs r:=by
 refine hide λ_ Z=>?_;obtain ⟨h1,h2⟩:=x;apply Z;clear Z;cases ps with
 | nil=>nomatch h1
 | cons p r=>
  refine hide λ_ Z=>?_;obtain ⟨k',u⟩:=p;simp only[List.map_cons,List.cons.injEq,VRs]at h1 h2;obtain ⟨u',r',⟨rfl,rfl⟩,h3,h4⟩:=h2;obtain ⟨rfl,h5⟩:=h1;apply Z;clear Z;exact ⟨_,_,rfl,h3,h5,h4⟩
theorem KVR.mk_cons {h:Heap}{k:Int}{v:AV}{u:Value}{kvs:List (Int × AV)}{ps:List (Int × Value)} (hv:VR h v u) (x:KVR h kvs ps):KVR h ((k,v) :: kvs) ((k,u) :: ps):=
 ⟨by exact congrArg _ x.1,by simp only[List.map_cons,VRs];exact ⟨_,_,rfl,hv,x.2⟩⟩
theorem KVR.get {h:Heap}{k:Int}:∀ {kvs:List (Int × AV)}{ps:List (Int × Value)},KVR h kvs ps->(∀ v,dget kvs k=some v->∃ u,valueAt ps k=some u/\VR h v u)/\(dget kvs k=none->valueAt ps k=none):=by
 intro r_
 induction r_ with
 | nil=>
  intro ps x;have:ps=[]:=by have:=x.length;exact List.length_eq_zero_iff.mp this
  subst this;exact ⟨λv e=>by (nomatch e),λ_=>rfl⟩
 | cons kv_ kvs ih=>
  obtain ⟨k',v'⟩:=kv_;intro ps x;refine hide λ_ Z=>?_;refine ad x.cons λu r V hv x'=>?_;subst V;apply Z;clear Z;have ih:=ih x';by_cases e:k'=k
  .simp only [dget,valueAt,List.find?_cons,e,decide_true,if_true,Option.map_some,Option.some.injEq]at ih ⊢;exact ⟨λv hv'=>⟨u,rfl,hv' ▸ hv⟩,λh=>by cases h⟩
  .simp only [dget,valueAt,List.find?_cons,e,decide_false]at ih ⊢;exact ih
theorem KVR.any {h:Heap}{k:Int}:∀ {kvs:List (Int × AV)}{ps:List (Int × Value)},KVR h kvs ps->(ps.any λkv=>decide (kv.1=k))=(kvs.any λkv=>decide (kv.1=k))
 | [],ps,x=>by
  have:ps=[]:=by have:=x.length;exact List.length_eq_zero_iff.mp this
  subst this;rfl
 | (k',v') :: kvs,ps,x=>by refine ad x.cons λu r V hv x'=>?_;subst V;simp only[List.any_cons,KVR.any x']
theorem KVR.append {h:Heap}{k:Int}{v:AV}{u:Value} (hv:VR h v u):∀ {kvs:List (Int × AV)}{ps:List (Int × Value)},KVR h kvs ps->KVR h (kvs ++ [(k,v)]) (ps ++ [(k,u)]):=by
 intro r_
 induction r_ with
 | nil=>
  intro ps x;have:ps=[]:=by have:=x.length;exact List.length_eq_zero_iff.mp this
  subst this;exact KVR.mk_cons hv ⟨rfl,by rfl⟩
 | cons kv_ kvs ih=>
  obtain ⟨k',v'⟩:=kv_;intro ps x;refine ad x.cons λu r V hv' x'=>?_;subst V;exact KVR.mk_cons hv' (ih x')
theorem KVR.map {h:Heap}{k:Int}{v:AV}{u:Value} (hv:VR h v u):∀ {kvs:List (Int × AV)}{ps:List (Int × Value)},KVR h kvs ps ->
  KVR h (kvs.map λkv=>if kv.1=k then (kv.1,v) else kv) (ps.map λkv=>if kv.1=k then (kv.1,u) else kv):=by
 intro r_
 induction r_ with
 | nil=>
  intro ps x;have:ps=[]:=by have:=x.length;exact List.length_eq_zero_iff.mp this
  subst this;exact ⟨rfl,by rfl⟩
 | cons kv_ kvs ih=>
  obtain ⟨k',v'⟩:=kv_;intro ps x;refine hide λ_ Z=>?_;refine ad x.cons λu r V hv' x'=>?_;subst V;apply Z;clear Z;simp only[List.map_cons];by_cases e:k'=k
  .simp only [e,if_true];exact KVR.mk_cons hv (ih x')
  .simp only [e,if_false];exact KVR.mk_cons hv' (ih x')
theorem KVR.put {h:Heap}{k:Int}{v:AV}{u:Value} (hv:VR h v u) {kvs:List (Int × AV)}{ps:List (Int × Value)} (x:KVR h kvs ps):KVR h (dput kvs k v) (PySem.stored ps k u):=by
 delta dput PySem.stored;rw[x.any];split
 .exact x.map hv
 .exact x.append hv
section
variable {A:Around}{E:ET}{s:Shared}
theorem Zee {d:Addr}{ps:List (Int × Value)}{k:Int}{key dflt:Value}{Q:ET} (hkey:Value.isInt k key=true) (hm:s.heap.DictOf (intKind PW W0) d ps)
  (hthere:∀ v,valueAt ps k=some v->Q v { s with toks:=s.toks + 1 })
  (hnew:valueAt ps k=none->∀ h',h'.DictOf (intKind PW W0) d (ps ++ [(k,dflt)])->Heap.SameBut d s.heap h'->Q dflt { s with heap:=h',toks:=s.toks + 1 })
  (hz:ps.length<=sizeLine) :
  wpAny (model PW W0) A (dictSetDefault d key dflt) Q E s:=by
 refine hide λ_ Z=>?_;refine aK hm λo es ep ho hc hd hk hp hn=>?_;apply Z;clear Z;have hkey':(intKind PW W0).is k key=true:=hkey;have hes:es.size<=sizeLine:=by
  have e1:=hp.length;have e2:es.toList.length=es.size:=by rfl
  (exact F40 0x8a5a96079608750 0x110011 rfl hz e1 e2)
 unfold dictSetDefault;refine wpAny_holding ?_;refine wB ((intKind PW W0).pyHash hkey' ?_);refine wB (wpAny_dictFind_of (s:={ s with toks:=s.toks + 1 }) hkey' ho hd hk ?_);have hidx:(es.findIdx? λe=>(intKind PW W0).is k e.key)=ps.findIdx? λkv=>decide (kv.1=k):=by rw[<-hp.findIdx k];obtain ⟨l⟩:=es;simp
 cases hi:es.findIdx? λe=>(intKind PW W0).is k e.key with
 | some i=>
  refine hide λ_ Z=>?_;have hl:(es.toList.findIdx? λe=>(intKind PW W0).is k e.key)=some i:=by refine .trans ?_ hi;obtain ⟨l⟩:=es;simp
  refine ae (hp.at hl) λe he hek hev=>?_;apply Z;clear Z;refine wB (wpAny_dictEntries (s:={ s with toks:=s.toks + 1 }) ho hd ?_);have he':es[i]?=some e:=by refine .trans ?_ he;obtain ⟨l⟩:=es;simp
  refine he'▸?_;exact wB (wpAny_rule (wP (hthere e.val hev)))
 | none=>
  have hnot:k ∉ ps.map (·.1):=not_mem_of_findIdx_none (hidx ▸ hi);have hfk:valueAt ps k=none:=by unfold valueAt;rw[List.find?_eq_none.mpr];rfl;intro x hx;simp only[decide_eq_true_eq];exact λe=>hnot (List.mem_map.mpr ⟨x,hx,e⟩)
  refine wB (wpAny_rule (wB (wpAny_updateDictKeys (hz:=hes) (s:={ s with toks:=s.toks + 1 }) ho hd (wP (hnew hfk _ ⟨_,_,ep + 1,Heap.get?_update_self _ ho (Obj.isFreed_of_dict (Obj.data_mapDictKeys hd _)), hc.mapDictKeys _,Obj.data_mapDictKeys hd _,hk.push hkey' _,?_,?_⟩ (Heap.SameBut.update ..))))))
  .have:=hp.append hkey' ((intKind PW W0).hash k) dflt;obtain ⟨l⟩:=es
   simpa using this
  .rw [List.map_append,List.nodup_append];refine ⟨hn,by simp,?_⟩;intro a ha b hb;simp only[List.map_cons,List.map_nil,List.mem_singleton]at hb;subst hb;exact λe=>hnot (e ▸ ha)
end
section
variable {K:Frag}
theorem Gnd.big (G:Gnd K B) : 3 < B.heap.objs.size:=by obtain ⟨mg,mb,h,_⟩:=G.top;exact h.lt
theorem Rel.notSys {s:Shared} (r:Rel B hp s) (G:Gnd K B) {d:Addr}{o:AO} (h:hp d=some o):(d == sysModules)=false:=by
 have h1:=(r.objs d o h).1;have h2:=G.big;have:d≠sysModules:=λe=>by
  have h3:B.heap.objs.size<=1:=by rw[e]at h1;exact h1
  (exact F10 0x3675073440 0x11 rfl h2 h3)
 simpa using this
theorem Rel.dict {s:Shared} (r:Rel B (hp.set env.locals (.ns m)) s) {d:Addr}{kvs:List (Int × AV)} (h:hp d=some (.dict kvs)) (hL:d≠env.locals):∃ ps,(∀ (_:Program) (_:World),s.heap.DictOf (intKind PW W0) d ps)/\KVR s.heap kvs ps:=by refine hide λ_ Z=>?_;refine ae (r.at h hL) λps h1 h2 h3=>?_;apply Z;clear Z;exact ⟨ps,λPW W0=>h1.dictOf PW W0,h2,h3⟩
theorem Rel.putDict {s:Shared} (r:Rel B (hp.set env.locals (.ns m)) s) {d:Addr}{kvs kvs':List (Int × AV)} (h:hp d=some (.dict kvs)) (hL:d≠env.locals) {h':Heap}{ps':List (Int × Value)} (hd:h'.DictOf (intKind PW W0) d ps') (hs:Heap.SameBut d s.heap h') (hk:ImmLe s.heap h'->KVR h' kvs' ps') (t:Nat) :
  Rel B ((hp.set d (.dict kvs')).set env.locals (.ns m)) { s with heap:=h',toks:=t }/\ImmLe s.heap h':=by
 have x:=r.turn (a:=d) (Hp.snt hL h) hs (.dict kvs') (λle=>⟨ps',IDict.of hd,(hk le).1,(hk le).2⟩) t;rw[Hp.sc _ _ _ (Ne.symm hL)]at x;exact x
theorem Zgc {pos}{Q:QV} (h:∀ a,hp a=none->a≠env.locals->Q (.ref a) (hp.set a (.dict []))):EV (model PW W0) A E B env (.Dict [] [] pos) m hp Q:=λs r=>by have n:=r.newAt { cls:=.type "dict",data:=.dict #[] } (.dict []) ⟨[],IDict.of (Heap.DictOf.new (knd:=intKind PW W0) s.heap),rfl,by rfl⟩;exact wpAny_Dict_empty ⟨.ref _,_,n.1,n.2.2.2,VR_ref,h _ n.2.1 n.2.2.1⟩
theorem Zc5 {h:Heap}{k:Int}{v:Value} (hv:VR h (.int k) v):Value.isInt k v=true:=by simp only[VR]at hv;obtain ⟨t,rfl⟩:=hv;simp[Value.isInt]
theorem Zne {o i:Expr} {pos}{v:AV}{Q:Loc->Hp->Prop}
  (h:EV (model PW W0) A E B env o m hp λov hp₁=>EV (model PW W0) A E B env i m hp₁ λiv hp₂=>∃ d kvs k,ov = .ref d/\iv = .int k/\hp₂ d=some (.dict kvs)/\d≠env.locals/\kvs.length<=5000/\Q m (hp₂.set d (.dict (dput kvs k v)))):ASG (model PW W0) A E B env (.Subscript o i pos) v m hp Q:=λs u r hu=>by
 dsimp only[assign_Subscript];refine wB (wpAny_holding (h.use r λov s₁ av hp₁ r₁ le₁ hov q=>wB (wpAny_holding (q.use r₁ λiv sV bv hp₂ rV leV hiv x=>wB (wpAny_standAt (wB (wpAny_holding ?_)))))));refine hide λ_ Z=>?_;obtain ⟨d,kvs,k,rfl,rfl,hd,hL,hlen,q⟩:=x;have hki:=Zc5 hiv;simp only[VR]at hov;subst hov;refine aa (rV.dict hd hL) λps hD hK=>?_;apply Z;clear Z;have huV:=hu.mono (le₁.trans leV);refine wpAny_setItem_pairs (knd:=intKind PW W0) (k:=k) hki (hD PW W0) (λh' hD' hs'=>?_) (by rw[hK.length];have:=sizeLine_eq;(exact Nat.le_trans ‹_› (by decide)));have x:=rV.putDict (kvs':=dput kvs k v) hd hL hD' hs' (λle=>KVR.put (huV.mono le) (hK.mono le)) (sV.toks + 1);exact wpAny_release ⟨m,_,x.1,(le₁.trans leV).trans x.2,q⟩
theorem Zgd {o e:Expr}{rest:List Expr}{name:PySem.Str}{id T:String} {apos pos}{pl:Sem Bool}{Q:QV} (slot:Slot T name id) (hty:typeOf (.builtin id)=pure (.type "method_descriptor")) (hpl:PlainAttrs T)
  (h:EV (model PW W0) A E B env o m hp λl hp₁=>∃ a,l = .ref a/\(∀ s,Rel B (hp₁.set env.locals (.ns m)) s->∃ ob,s.heap.get? a=some ob/\ob.cls = .type T/\ob.dict=none)/\EVS (model PW W0) A E B env (e :: rest) m hp₁ λvs hp₂=>CL (model PW W0) A E B env (.builtin id) m (.ref a :: vs) hp₂ Q)
  (hc:eval (.Call (.Attribute o name apos) (e :: rest) [] pos) env=(do
   let ov <-eval o env
   standAt apos.atName
   let (f,first) <-holding [ov] (getMethod ov name pl)
   callWith pos f first (backTo pos (starEach (e :: rest) env)) []):=by rfl)
  (he:starEach (e :: rest) env=(false,eval e env) :: starEach rest env:=by rfl) (hplain:(backTo pos (starEach rest env)).any (·.1)=false:=by rfl) :
  EV (model PW W0) A E B env (.Call (.Attribute o name apos) (e :: rest) [] pos) m hp Q:=λs r=>by
 refine MethodCall_ (pl:=pl) (h.use r λu s₁ l hp₁ r₁ le₁ hu x=>?_) hc;refine hide λ_ Z=>?_;refine ae x λa V ht q=>?_;clear x;subst V;simp only[VR]at hu;subst hu;refine ae (ht s₁ r₁) λob ho hcl hdn=>?_;apply Z;clear Z;refine getMethod_builtin ⟨ob,ho,hcl⟩ hpl slot hty (λb e=>by cases e;exact ⟨ob,ho,hdn⟩) ?_;refine callWith_method1 (Zcr (q pos s₁ r₁) λvs sV avs hp₂ rV leV hv q=>?_) he hplain;exact useV (q sV (.ref a :: vs) rV (by simp only[VRs];exact ⟨_,_,rfl,VR_ref,hv⟩)) λv sX av hpX rX leX hv q=>mkV rX ((le₁.trans leV).trans leX) hv q
theorem Zlo {d:Addr}{kvs:List (Int × AV)} (hd:hp d=some (.dict kvs)) (hL:d≠env.locals):∀ s,Rel B (hp.set env.locals (.ns m)) s->∃ ob,s.heap.get? d=some ob/\ob.cls = .type "dict" /\ ob.dict=none:=λs r=>by refine hide λ_ Z=>?_;obtain ⟨ps,⟨o,es,ep,ho,hc,_⟩,_⟩:=r.at hd hL;apply Z;clear Z;exact ⟨o,ho,hc.1,hc.2.1⟩
theorem Zrx {d:Addr}{kvs:List (Int × AV)}{k:Int}{dv:AV}{Q:QV} (G:Gnd K B) (hd:hp d=some (.dict kvs)) (hL:d≠env.locals) (h:Q ((dget kvs k).getD dv) hp):CL (model PW W0) A E B env (.builtin "dict.get") m [.ref d,.int k,dv] hp Q:=λs vs r hv=>by
 obtain ⟨v,u,x,rfl,h1,h2,h3⟩:∃ u v x,vs=[u,v,x]/\VR s.heap (.ref d) u/\VR s.heap (.int k) v/\VR s.heap dv x:=by simp only[VRs]at hv;refine ad hv λv r V h1 ah=>?_;clear hv;subst V;refine ad ah λu r' aB h2 ar=>?_;clear ah;subst aB;refine ad ar λz r'' aG h3 aF=>?_;clear ar;subst aG;subst aF;exact ⟨_,_,_,rfl,h1,h2,h3⟩
 have hki:=Zc5 h2;simp only[VR]at h1;subst h1;refine aa (r.dict hd hL) λps hD hK=>?_;refine call_meetsIn F.slot_dict_get (hD PW W0).typeIs F.entry_dict_get (F.args_dict_get_3 _ _ _) (meets_dict_get_default (intKind PW W0) d (k:=k) hki (r.notSys G (Hp.snt hL hd)) x) ⟨_,(hD PW W0).mapOf,?_⟩;refine mkV (r.toks _) (.refl _) (?_) h;have hg:=hK.get (k:=k);cases e:dget kvs k with
 | none=>rw[hg.2 e];exact h3
 | some y=>refine aa (hg.1 y e) λz hz hyz=>?_;rw[hz];exact hyz
theorem Ze8 {d:Addr}{kvs:List (Int × AV)}{k:Int}{dv:AV}{Q:QV} (G:Gnd K B) (hd:hp d=some (.dict kvs)) (hL:d≠env.locals) (hlen:kvs.length<=5000)
  (h:Q ((dget kvs k).getD dv) (if (dget kvs k).isSome then hp else hp.set d (.dict (kvs ++ [(k,dv)])))):CL (model PW W0) A E B env (.builtin "dict.setdefault") m [.ref d,.int k,dv] hp Q:=λs vs r hv=>by
 obtain ⟨v,u,x,rfl,h1,h2,h3⟩:∃ u v x,vs=[u,v,x]/\VR s.heap (.ref d) u/\VR s.heap (.int k) v/\VR s.heap dv x:=by simp only[VRs]at hv;refine ad hv λv r V h1 ah=>?_;clear hv;subst V;refine ad ah λu r' aB h2 ar=>?_;clear ah;subst aB;refine ad ar λz r'' aG h3 aF=>?_;clear ar;subst aG;subst aF;exact ⟨_,_,_,rfl,h1,h2,h3⟩
 have hki:=Zc5 h2;simp only[VR]at h1;subst h1;refine aa (r.dict hd hL) λps hD hK=>?_;have hsys:=r.notSys G (show (hp.set env.locals (.ns m)) d=some (.dict kvs) by rw[Hp.sn _ _ hL];exact hd);refine wpAny_call_entry F.slot_dict_setdefault (hD PW W0).typeIs F.entry_dict_setdefault ?_ (F.args_dict_setdefault_3 _ _ _);unfold Builtin.«dict.setdefault»;refine wB ?_;unfold Builtin.Dict.keyAndDefault;refine wB (wpAny_notOrdered_dict (hD PW W0).typeIs ?_);show wpAny _ _ (pure (d,u,some x)) _ _ s;refine wP ?_;show wpAny _ _ (if (d == sysModules)=true then _ else (dictSetDefault d u x >>= _)) _ _ s;rw[if_neg (by rw[hsys];exact Bool.false_ne_true)];have hg:=hK.get (k:=k);refine wB (Zee (k:=k) hki (hD PW W0) (λy hy=>?_) (λhn h' hD' hs'=>?_) (by rw[hK.length];have:=sizeLine_eq;(exact Nat.le_trans ‹_› (by decide))))
 .refine wP ⟨_,rfl,?_⟩;cases e:dget kvs k with
  | none=>rw[hg.2 e]at hy;cases hy
  | some z=>
   refine aa (hg.1 z e) λz' hz' hzz=>?_;rw[hz']at hy;cases hy;replace h:=e▸h;exact mkV (r.toks _) (.refl _) hzz h
 .refine wP ⟨_,rfl,?_⟩;cases e:dget kvs k with
  | some z=>obtain ⟨z',hz',_⟩:=hg.1 z e;rw[hn]at hz';cases hz'
  | none=>
   replace h:=e▸h;have t:=r.putDict (kvs':=kvs ++ [(k,dv)]) hd hL hD' hs' (λle=>KVR.append (h3.mono le) (hK.mono le)) (s.toks + 1);exact mkV t.1 t.2 (h3.mono t.2) h
end
section
variable {K:Frag}
noncomputable abbrev Zjz (B:Shared) (env:Env) (m:Loc) (T:String) (id:String) (Q:QV):AV->Hp->Prop:=λv hp₁=>∃ a,v = .ref a/\(∀ s,Rel B (hp₁.set env.locals (.ns m)) s->∃ ob,s.heap.get? a=some ob/\ob.cls = .type T/\ob.dict=none/\∀ c,ob.data≠.cls c)/\∀ x,hp₁ x=none->x≠env.locals->Q (.ref x) (hp₁.set x (.obj (Zbb id a)))
theorem Zpk {o:Expr}{name:PySem.Str} {pos}{T id gid:String}{Q:QV} (b:BndOk T name id gid)
  (hck:∀ {A:Around}{a:Addr}{s:Shared}{o:Obj}{Q:ET},s.heap.get? a=some o->o.cls = .type T->Q (.ref s.heap.objs.size) { s with heap:=s.heap.push (Zbb id a) }->wpAny (model PW W0) A (call (.builtin "method_descriptor.__get__") [.builtin id,.ref a,.type T]) Q (λ_ _=>False) s)
  (h:EV (model PW W0) A E B env o m hp (Zjz B env m T id Q))
  (he:eval (.Attribute o name pos) env=(do
   let ov <-eval o env
   standAt pos.atName
   let r <-holding [ov] (getAttr ov name true)
   letTemporaryGo o ov r
   pure r):=by with_unfolding_all rfl) (ht:∀ ov r,letTemporaryGo o ov r=pure ():=by intro _ _;rfl) :
  EV (model PW W0) A E B env (.Attribute o name pos) m hp Q:=λs r=>by
 rw[he];refine wB (h.use r λv s₁ av hp₁ r₁ le₁ hv x=>wB (wpAny_standAt (wB (wpAny_holding ?_))));refine hide λ_ Z=>?_;refine ae x λa V hty q=>?_;clear x;subst V;simp only[VR]at hv;subst hv;refine ap (hty s₁ r₁) λob ho hcl hdn hn=>?_;apply Z;clear Z;refine Zdl b ho hcl hdn hn (λho hc h=>hck ho hc h) ?_;have n:=r₁.newAt (Zbb id a) (.obj (Zbb id a)) ⟨Heap.get?_push_size _ rfl,bndOb_notImm⟩;rw[ht];exact wB (wP (wP (mkV (av:=.ref _) (n.1.toks _) (le₁.trans n.2.2.2) VR_ref (q _ n.2.1 n.2.2.1))))
theorem Ziz {d:Addr}{kvs:List (Int × AV)} (hd:hp d=some (.dict kvs)) (hL:d≠env.locals):∀ s,Rel B (hp.set env.locals (.ns m)) s->∃ ob,s.heap.get? d=some ob/\ob.cls = .type "dict" /\ ob.dict=none/\∀ c,ob.data≠.cls c:=λs r=>by refine hide λ_ Z=>?_;obtain ⟨ps,⟨o,es,ep,ho,hc,hdt,_⟩,_⟩:=r.at hd hL;apply Z;clear Z;exact ⟨o,ho,hc.1,hc.2.1,λc=>by rw[hdt];nofun⟩
theorem Zln {d:Addr}{f:Int->Bool}{n:Nat} (hd:hp d=some (.set f n)) (hL:d≠env.locals):∀ s,Rel B (hp.set env.locals (.ns m)) s->∃ ob,s.heap.get? d=some ob/\ob.cls = .type "set" /\ ob.dict=none/\∀ c,ob.data≠.cls c:=λs r=>by refine hide λ_ Z=>?_;obtain ⟨o,es,ep,t,ho,hc,hdt,_⟩:=r.at hd hL;apply Z;clear Z;exact ⟨o,ho,hc.1,hc.2.1,λc=>by rw[hdt];nofun⟩
theorem Zf1 {M:Model}{s:Shared}{pos:Pos}{u a:Addr}{id:String}{args:List (Bool × Sem Value)}{Q:ET} (hplain:args.any (·.1)=false)
  (h:wpAny M A (evalArgs (.ref u) true args []) (λx s₁=>s₁.heap.get? u=some (Zbb id a)/\wpAny M A (call (.ref u) ([] ++ x.pos) x.kw) Q E s₁) E s):wpAny M A (callWith pos (.ref u) [] args []) Q E s:=by
 unfold callWith;refine wB (wpAny_holding (wpAny_mono h (λx s₁ h₁=>wB (wpAny_standAt ?_)) λ_ _ x=>x));obtain ⟨ho,hcall⟩:=h₁;simp -iota only [hplain,List.any_nil,Bool.or_false];refine wB (m:=keeperOf (.ref u)) ?_;unfold keeperOf;refine wB (wpAny_load ho ?_);dsimp only [Zbb,show (Value.type "builtin_function_or_method" != Value.type "method")=true by decide,show (Value.type "builtin_function_or_method" == Value.type "builtin_function_or_method" || Value.type "builtin_function_or_method" == Value.type "method-wrapper")=true by decide,if_true];refine wP ?_;exact wB (wpAny_mono hcall (λr sV hr=>wB (wpAny_holding (wpAny_point (wP hr)))) λ_ _ x=>x)
theorem Zhb {M:Model}{s:Shared}{pos:Pos}{u a:Addr}{id:String}{e:Expr}{rest:List Expr}{Q:ET}
  (h:wpAny M A (spliced (backTo pos (starEach (e :: rest) env))) (λvs s₁=>s₁.heap.get? u=some (Zbb id a)/\wpAny M A (call (.ref u) vs) Q E s₁) E s)
  (he:starEach (e :: rest) env=(false,eval e env) :: starEach rest env) (hplain:(backTo pos (starEach rest env)).any (·.1)=false) :
  wpAny M A (callWith pos (.ref u) [] (backTo pos (starEach (e :: rest) env)) []) Q E s:=by
 rw[he]at h ⊢;refine Zf1 (id:=id) (a:=a) (by show (false || (backTo pos (starEach rest env)).any (·.1))=false;rw[hplain];rfl) ?_;exact evalArgs_plain h
noncomputable abbrev Zhk (PW:Program) (W0:World) (A:Around) (E:ET) (B:Shared) (env:Env) (m:Loc) (e:Expr) (rest:List Expr) (id:String) (Q:QV):AV->Hp->Prop:=λv hp₁=>∃ b a,v = .ref b/\b≠env.locals/\EVS (model PW W0) A E B env (e :: rest) m hp₁ λvs hp₂=>hp₂ b=some (.obj (Zbb id a))/\CL (model PW W0) A E B env (.ref b) m vs hp₂ Q
theorem Zcl {func e:Expr}{rest:List Expr} {pos}{id:String}{Q:QV}
  (h:EV (model PW W0) A E B env func m hp (Zhk PW W0 A E B env m e rest id Q))
  (hc:eval (.Call func (e :: rest) [] pos) env=(do callWith pos (<-eval func env) [] (backTo pos (starEach (e :: rest) env)) (backToKw pos (keywordEach [] env))):=by rfl)
  (he:starEach (e :: rest) env=(false,eval e env) :: starEach rest env:=by rfl) (hplain:(backTo pos (starEach rest env)).any (·.1)=false:=by rfl) :
  EV (model PW W0) A E B env (.Call func (e :: rest) [] pos) m hp Q:=λs r=>by
 refine Call_ (h.use r λu s₁ v hp₁ r₁ le₁ hu x=>?_) hc;refine hide λ_ Z=>?_;refine ad x λb a V hbL q=>?_;clear x;subst V;apply Z;clear Z;simp only[VR]at hu;subst hu;refine Zhb (id:=id) (a:=a) (Zcr (q pos s₁ r₁) λvs sV avs hp₂ rV leV hv ⟨hb,q⟩=>⟨(rV.at hb hbL).1,?_⟩) he hplain;exact useV (q sV vs rV hv) λv sX av hpX rX leX hv q=>mkV rX ((le₁.trans leV).trans leX) hv q
theorem Zi6 {s:Shared}{x a:Addr}{id:String}{bt:Builtin}{vs:List Value}{Q:ET} (ho:s.heap.get? x=some (Zbb id a)) (hq:(Code.builtin id ⟨.ref a :: vs,[]⟩).quiet=true) (he:entryFor table id=some bt) (hpl:plainId id=true)
  (hck:∀ (Q:Unit->Shared->Prop) (E:ET) (A:Around),Q () s->wpAny (model PW W0) A (checkBoundCall id ⟨.ref a :: vs,[]⟩) Q E s)
  (tree:wpAny (model PW W0) A.in1 (bt ⟨.ref a :: vs,[]⟩) (λfin s'=>∃ v,fin = .done (.ret v)/\Q v s') E s):wpAny (model PW W0) A (call (.ref x) vs) Q E s:=by
 refine wpAny_call (codeAny_of_tree ?_);show wpAny _ A.in1 (callAny (.ref x) ⟨vs,[]⟩) _ _ s;dsimp only [callAny];refine wB (wpAny_load ho ?_);dsimp only [Zbb,show (Value.type "builtin_function_or_method" == Value.type "method" || Value.type "builtin_function_or_method" == Value.type "builtin_function_or_method" || Value.type "builtin_function_or_method" == Value.type "method-wrapper")=true by decide,if_true];refine KFB.if_so (by decide) ?_;refine wB (hck _ _ _ ?_);refine wB (wP (wP ?_));refine ⟨hq,codeAny_builtin he ?_⟩;rw[Around.under_plainId hpl];refine wpAny_mono tree (λfin s' yq=>?_) λ_ _ x=>x;refine aa yq λv e q=>?_;subst e;exact q
theorem Zha {s:Shared}{a:Addr}{T id:String}{o:Obj}{sig:Manifest.Signature}{vs:List Value}{Q:Unit->Shared->Prop} (ho:s.heap.get? a=some o) (hcl:o.cls = .type T) (hn:∀ c,o.data≠.cls c) (hsig:Manifest.signature? id=some sig) (hk:builtinKind id=some .method) (hva:Manifest.varargsMethods.contains id=false)
  (hmod:isSubtype (.type T) (.type "module")=pure false) (hr:sig.receiver = .self)
  (hf:(toString (Bind.lastOf T) ++ toString "." ++ toString (Bind.lastOf id) != "*")=true) (hs:(sig.short != "*")=true)
  (hchk:∀ full short f2,Bind.check { sig with full:=f2 } full short vs.length []=pure ()) (h:Q () s):wpAny (model PW W0) A (checkBoundCall id ⟨.ref a :: vs,[]⟩) Q E s:=by
 have hT:s.TypeIs (.ref a) T:=⟨o,ho,hcl⟩;unfold checkBoundCall;simp only[hsig,hk];rw[if_neg (by decide)];refine wB (wpAny_isInstance hT hmod ?_);refine hva.symm▸?_;simp only[Bool.or_false,Bool.false_eq_true,if_false];refine wB ?_;delta isType loadHead;refine wB (wpAny_loadPart ho (wP ?_));refine KFB.if_not ?_ ?_
 .cases e:o.data with
  | cls c=>exact absurd e (hn c)
  | _=>rfl
 refine wB (wpAny_typeOf hT ?_);dsimp only;unfold Bind.checkArgs;refine hr▸?_;have hrn:(Manifest.Receiver.self == Manifest.Receiver.none)=false:=by decide
 dsimp only [hrn,Bool.false_eq_true,if_false,List.map_nil,List.isEmpty_nil,List.head?_cons,List.length_cons,Nat.add_sub_cancel]
 have fin:wpAny (model PW W0) A (do
   let a1 <-Bind.printed (toString (Bind.lastOf T) ++ toString "." ++ toString (Bind.lastOf id)) true { sig with full:=toString (Bind.lastOf T) ++ toString "." ++ toString (Bind.lastOf id),receiver:=.self } (some (.ref a));let a2 <-Bind.printed sig.short false { sig with full:=toString (Bind.lastOf T) ++ toString "." ++ toString (Bind.lastOf id),receiver:=.self } (some (.ref a))
   (Bind.check { sig with full:=toString (Bind.lastOf T) ++ toString "." ++ toString (Bind.lastOf id),receiver:=.self } a1 a2 vs.length []).onRaise λ_=>do
    if (toString (Bind.lastOf T) ++ toString "." ++ toString (Bind.lastOf id)) == "*" || sig.short == "*" then
     if let some r:=some (Value.ref a) then discard <| typeName (<-Bind.receiverType { sig with full:=toString (Bind.lastOf T) ++ toString "." ++ toString (Bind.lastOf id),receiver:=.self } r)
    if <-Bind.nameInDoubt { sig with full:=toString (Bind.lastOf T) ++ toString "." ++ toString (Bind.lastOf id),receiver:=.self } (some (.ref a)) then unsupported "bind:dotted-class-name-under-the-short-mark") Q E s:=by
  refine wB (printed_name hf (wB (printed_name hs ?_)));have:=hchk (toString (Bind.lastOf T) ++ toString "." ++ toString (Bind.lastOf id)) sig.short (toString (Bind.lastOf T) ++ toString "." ++ toString (Bind.lastOf id));refine hr▸?_;rw[this];exact wpAny_onRaise (wP h)
 cases hm:sig.machinery with
 | _=>replace fin:=hm▸fin;exact fin
theorem Zrd {full short f2:String}:Bind.check ⟨.oneArg,f2, "__contains__",.self,[⟨"object",.posOnly,true⟩]⟩ full short 1 []=pure ():=by rfl
theorem Zry {b d:Addr}{kvs:List (Int × AV)}{k:Int}{dv:AV}{Q:QV} (G:Gnd K B) (hb:hp b=some (.obj (Zbb "dict.get" d))) (hbL:b≠env.locals) (hd:hp d=some (.dict kvs)) (hL:d≠env.locals) (h:Q ((dget kvs k).getD dv) hp):CL (model PW W0) A E B env (.ref b) m [.int k,dv] hp Q:=λs vs r hv=>by
 refine hide λ_ Z=>?_;refine ad (Zbg hv) λv u V h1 h2=>?_;subst V;have hki:=Zc5 h1;refine aa (r.dict hd hL) λps hD hK=>?_;have hsys:=r.notSys G (show (hp.set env.locals (.ns m)) d=some (.dict kvs) by rw[Hp.sn _ _ hL];exact hd);refine ap (Ziz (m:=m) hd hL s r) λob ho hcl hdn hn=>?_;apply Z;clear Z;refine Zi6 (r.at hb hbL).1 (Code.quiet_builtin _ (by decide +kernel)) F.entry_dict_get (by decide +kernel) (λQ E A hq=>Zha (sig:=⟨.positional, "dict.get", "get",.self,[⟨"key",.posOnly,true⟩,⟨"default",.posOnly,false⟩]⟩) ho hcl hn (by kernel_rfl) (by kernel_rfl) (by decide +kernel) (by rw[isSubtype_type];kernel_rfl) rfl (by decide +kernel) (by decide +kernel) (λfull short f2=>by rfl) hq) ?_;show wpAny _ _ (dictGet d v >>= _) _ _ s;refine wB (wpAny_dictGet_of (knd:=intKind PW W0) (k:=k) hki (hD PW W0).mapOf ?_);have hg:=hK.get (k:=k);cases e:dget kvs k with
 | none=>
  replace h:=e▸h;refine (hg.2 e)▸?_;show wpAny _ _ (Builtin.Dict.missed d v >>= _) _ _ _;exact wB (wpAny_missed_other hsys (wP ⟨u,rfl,dv,hp,r.toks _,.refl _,h2,h⟩))
 | some y=>
  refine hide λ_ Z=>?_;rw[e]at h;refine aa (hg.1 y e) λz hz hyz=>?_;apply Z;clear Z;refine hz▸?_;exact wP ⟨z,rfl,y,hp,r.toks _,.refl _,hyz,h⟩
theorem ISet.setOf {h:Heap}{a:Addr}{f:Int->Bool}{n:Nat} (x:ISet h a f n):h.SetOf (intKind PW W0) a f n:=by refine hide λ_ Z=>?_;refine bd x λo es ep t h1 h2 h3 h4 h5 h6 h7 h8=>?_;apply Z;clear Z;exact ⟨o,es,ep,t,h1,h2,h3,h4,h5,h6,h7,h8⟩
theorem Zf0 {s:Shared}{d:Addr}{f:Int->Bool}{n:Nat}{k:Int}{v:Value}{P:PySem.Fin->Shared->Prop} (hki:Value.isInt k v=true) (hsc:v.scannable=true) (hS:s.heap.SetOf (intKind PW W0) d f n)
  (h:P (.done (.ret (.bool (f k)))) { s with toks:=s.toks + 1 }):wpAny (model PW W0) A (Builtin.«frozenset.__contains__» ⟨[.ref d,v],[]⟩) P E s:=by
 delta Builtin.«frozenset.__contains__» Builtin.Frozenset.oneOther;simp only[List.isEmpty_nil,bind_assoc];delta Builtin.Frozenset.addrOf Builtin.Frozenset.withSetAsKey setContains;refine wB (wP ?_)
 try dsimp only
 refine wB (wP ?_)
 try dsimp only
 refine wB (wpAny_tryCatch ?_);refine wpAny_holding ?_;refine wB ((intKind PW W0).pyHash (k:=k) hki ?_);refine wB (wpAny_setFind_of (knd:=intKind PW W0) (k:=k) (s:={ s with toks:=s.toks + 1 }) hki hsc hS λrr hr=>?_);refine wP ?_;show wpAny _ _ (ret (Value.bool rr.isSome)) _ _ _;refine hr▸?_;exact wP h
theorem Zkv:Manifest.signature? "set.__contains__" = some ⟨.oneArg, "set.__contains__", "__contains__",.self,[⟨"object",.posOnly,true⟩]⟩:=by kernel_rfl
theorem Zjm:builtinKind "set.__contains__" = some .method:=by kernel_rfl
theorem Znf:Manifest.varargsMethods.contains "set.__contains__" = false:=by decide +kernel
theorem Zqu:isSubtype (.type "set") (.type "module")=pure false:=by rw[isSubtype_type];kernel_rfl
theorem Zn9:(toString (Bind.lastOf "set") ++ toString "." ++ toString (Bind.lastOf "set.__contains__") != "*")=true:=by decide +kernel
theorem Zh6 {s:Shared}{a:Addr}{o:Obj}{v:Value}{Q:Unit->Shared->Prop} (ho:s.heap.get? a=some o) (hcl:o.cls = .type "set") (hn:∀ c,o.data≠.cls c) (h:Q () s):wpAny (model PW W0) A (checkBoundCall "set.__contains__" ⟨.ref a :: [v],[]⟩) Q E s:=by
 have hs:(("__contains__" : String) != "*")=true:=by decide
 have:=@Zha A E s a "set" "set.__contains__" o ⟨.oneArg, "set.__contains__", "__contains__",.self,[⟨"object",.posOnly,true⟩]⟩ [v] Q ho hcl hn Zkv Zjm Znf Zqu rfl Zn9 hs (λfull short f2=>Zrd) h;exact this
theorem Zjg {b d:Addr}{f:Int->Bool}{n:Nat}{k:Int}{Q:QV} (hb:hp b=some (.obj (Zbb "set.__contains__" d))) (hbL:b≠env.locals) (hd:hp d=some (.set f n)) (hL:d≠env.locals) (h:Q (.bool (f k)) hp):CL (model PW W0) A E B env (.ref b) m [.int k] hp Q:=λs vs r hv=>by
 refine hide λ_ Z=>?_;obtain ⟨v,rfl,h1⟩:=Zbn hv;have hki:=Zc5 h1;have hsc:v.scannable=true:=by simp only[VR]at h1;obtain ⟨t,rfl⟩:=h1;rfl
 have hS:s.heap.SetOf (intKind PW W0) d f n:=ISet.setOf (r.at hd hL);refine ap (Zln (m:=m) hd hL s r) λob ho hcl hdn hn=>?_;apply Z;clear Z;refine Zi6 (r.at hb hbL).1 (Code.quiet_builtin _ (by decide +kernel)) entry_set_contains (by decide +kernel) (λQ E A hq=>Zh6 ho hcl hn hq) ?_;exact Zf0 hki hsc hS ⟨_,rfl,.bool (f k),hp,r.toks _,.refl _,VR_bool,h⟩
theorem Zrr {func:Expr} {pos}{Q:QV}
  (h:EV (model PW W0) A E B env func m hp λf hp₁=>f = .ty "set" /\ ∀ a,hp₁ a=none->a≠env.locals->Q (.ref a) (hp₁.set a (.set (λ_=>false) 0)))
  (hc:eval (.Call func [] [] pos) env=(do callWith pos (<-eval func env) [] (backTo pos (starEach [] env)) (backToKw pos (keywordEach [] env))):=by rfl):EV (model PW W0) A E B env (.Call func [] [] pos) m hp Q:=λs r=>by
 refine Call_ (h.use r λu s₁ f hp₁ r₁ le₁ hu yq=>?_) hc;obtain ⟨hf,q⟩:=yq;subst hf;simp only[VR]at hu;subst hu;refine PyProof.Rows.callWith_type0 (call_set_0 λled=>?_);have n:=r₁.newAt { cls:=.type "set",dict:=none,data:=.set #[] 0 (.fresh 0 0 led) } (.set (λ_=>false) 0) ⟨_,#[],0,_,Heap.get?_push_size _ rfl,⟨rfl,rfl,rfl⟩,rfl,λe he=>by (nomatch he),λk=>by simp,by decide,by rfl,rfl⟩;exact mkV (av:=.ref _) n.1 (le₁.trans n.2.2.2) VR_ref (q _ n.2.1 n.2.2.1)
end
section
variable {K:Frag}
theorem Zdq {test:Expr}{body:List Stmt} {pos}{Q:QX} (I:Nat->Loc->Hp->Prop) (n:Nat) (h0:I n m hp)
  (turn:∀ n m₂ hp₂,I n m₂ hp₂->TST (model PW W0) A (λ_ _=>False) B env test m₂ hp₂ λb hpX=>if b then EXs (model PW W0) A (λ_ _=>False) B env body m₂ hpX λfl mj hpj=>
    match fl with | .next | .cont=>∃ n',n' < n/\I n' mj hpj | .brk=>Q .next mj hpj | .ret v=>Q (.ret v) mj hpj
   else Q .next m₂ hpX):EX (model PW W0) A E B env (.While test body [] pos) m hp Q:=λs r=>by
 refine wpAny_While ?_;refine codeAny_whileLoop (λk s'=>∃ m₂ hp₂,I k m₂ hp₂/\Rel B (hp₂.set env.locals (.ns m₂)) s'/\ImmLe s.heap s'.heap) (λk s' x=>?_) n ⟨m,hp,h0,r,.refl _⟩;refine hide λ_ Z=>?_;refine ad x λm₂ hp₂ hI r' le=>?_;apply Z;clear Z;refine Zr3 (turn k m₂ hp₂ hI s' r') λb sV hpX rX leX q=>?_;cases b with
 | false=>
  rw[if_neg Bool.false_ne_true]at q ⊢;exact wpAny_execs_nil ⟨.next,m₂,hpX,rX,le.trans leX,rfl,q⟩
 | true=>
  rw[if_pos rfl]at q ⊢;refine Zr2 (q sV rX) λfl sj af mj hpj rj lej hf q=>?_;have leA:ImmLe s.heap sj.heap:=(le.trans leX).trans lej;cases af with
  | next=>cases hf;obtain ⟨n',hn',q⟩:=q;exact ⟨n',hn',mj,hpj,q,rj,leA⟩
  | cont=>cases hf;obtain ⟨n',hn',q⟩:=q;exact ⟨n',hn',mj,hpj,q,rj,leA⟩
  | brk=>cases hf;exact mkX (af:=.next) rj leA rfl q
  | ret v=>obtain ⟨u,rfl,hu⟩:=hf;exact mkX (af:=.ret v) rj leA ⟨u,rfl,hu⟩ q
theorem Zjc {a b:Addr}{Q:QV} (ha:∀ s,Rel B (hp.set env.locals (.ns m)) s->∃ ob,s.heap.get? a=some ob/\ob.cls = .type "list") (hb:∀ s,Rel B (hp.set env.locals (.ns m)) s->∃ ob,s.heap.get? b=some ob/\ob.cls = .type "list") (h:Q (.bool (a == b)) hp):OP2 (model PW W0) A E B env (compareOp .Is) m (.ref a) (.ref b) hp Q:=λs u v r hu hv=>by
 simp only[VR]at hu hv;subst hu;subst hv;by_cases e:a=b
 .subst e;exact wpAny_is_ref_self ⟨_,hp,r,.refl _,VR_bool,by simpa using h⟩
 .refine hide λ_ Z=>?_;refine aa (ha s r) λoa ga ca=>?_;obtain ⟨ob,gb,_⟩:=hb s r;apply Z;clear Z;refine wpAny_is_ref_other e ga gb (by rw[ca];decide) ⟨_,hp,r,.refl _,VR_bool,?_⟩;rw[show (a == b)=false from by simpa using e]at h;exact h
theorem Rel.two {s:Shared} (r:Rel B hp s) {e it:Addr}{oe oi oe' oi':Obj} (he:hp e=some (.obj oe)) (hi:hp it=some (.obj oi)) (hne:e≠it) {h':Heap} (hk:∀ b o,b≠e->b≠it->s.heap.get? b=some o->h'.get? b=some o)
  (hsz:s.heap.objs.size<=h'.objs.size) (ge:h'.get? e=some oe') (gi:h'.get? it=some oi') (ne:¬ Imm oe') (ni:¬ Imm oi') (t:Nat):Rel B ((hp.set it (.obj oi')).set e (.obj oe')) { s with heap:=h',toks:=t }/\ImmLe s.heap h':=by
 have le:ImmLe s.heap h':=λb ob eq i=>by
  by_cases h1:b=e
  .subst h1;exact absurd i ((r.objs _ _ he).2.notImm _ eq)
  .by_cases h2:b=it
   .subst h2;exact absurd i ((r.objs _ _ hi).2.notImm _ eq)
   .exact hk b ob h1 h2 eq
 refine ⟨⟨λb ob eq=>?_,λa o eq=>?_,r.os,r.bare,Nat.le_trans r.size hsz⟩,le⟩
 .refine hk b ob (λh=>?_) (λh=>?_) (r.keep b ob eq)
  .subst h;exact absurd (Heap.lt_size eq) (Nat.not_lt.mpr (r.objs _ _ he).1)
  .subst h;exact absurd (Heap.lt_size eq) (Nat.not_lt.mpr (r.objs _ _ hi).1)
 .by_cases h1:a=e
  .subst h1;rw[Hp.ss]at eq;cases eq;exact ⟨(r.objs _ _ he).1,ge,ne⟩
  .rw [Hp.sn _ _ h1]at eq;by_cases h2:a=it
   .subst h2;rw[Hp.ss]at eq;cases eq;exact ⟨(r.objs _ _ hi).1,gi,ni⟩
   .rw [Hp.sn _ _ h2]at eq;exact ⟨(r.objs a o eq).1,(r.objs a o eq).2.here le λo' e'=>hk _ _ h1 h2 e'⟩
theorem Ztr {target:Expr}{body:List Stmt}{it:Addr}{n:Nat}{el:Nat->AV}{J J':Nat->Loc->Hp->Prop}{Q:QX}{R:Result->Shared->Prop} {s₀:Shared}
  (next:∀ i m₂ hp₂ s,i < n->J i m₂ hp₂->Rel B (hp₂.set env.locals (.ns m₂)) s->ImmLe s₀.heap s.heap->∀ (E':ET) (W:Option Value->Shared->Prop),
   (∀ v s₁,(∀ U:Unit->Shared->Prop,(∀ s' hp',VR s'.heap (el i) v->Rel B (hp'.set env.locals (.ns m₂)) s'->ImmLe s.heap s'.heap->J' i m₂ hp'->U () s')->wpAny (model PW W0) A (letOwnedTupleGo target (.ref it) v) U E' s₁)->W (some v) s₁)->wpAny (model PW W0) A (pyNext (.ref it)) W E' s)
  (stop:∀ m₂ hp₂ s,J n m₂ hp₂->Rel B (hp₂.set env.locals (.ns m₂)) s->ImmLe s₀.heap s.heap->∀ (E':ET) (W:Option Value->Shared->Prop),
   (∀ s' hp',Rel B (hp'.set env.locals (.ns m₂)) s'->ImmLe s.heap s'.heap->Q .next m₂ hp'->W none s')->wpAny (model PW W0) A (pyNext (.ref it)) W E' s)
  (turn:∀ i m₂ hp₂,i < n->J' i m₂ hp₂->ASG (model PW W0) A (λ_ _=>False) B env target (el i) m₂ hp₂ λmX hpX=>EXs (model PW W0) A (λ_ _=>False) B env body mX hpX λfl mj hpj=>
   match fl with | .next | .cont=>J (i + 1) mj hpj | .brk=>Q .next mj hpj | .ret v=>Q (.ret v) mj hpj)
  (hR:∀ fl af m' hp' s',Rel B (hp'.set env.locals (.ns m')) s'->ImmLe s₀.heap s'.heap->FR s'.heap af fl->Q af m' hp'->R (.ok fl) s')
  {s:Shared} (h0:J 0 m hp) (rel:Rel B (hp.set env.locals (.ns m)) s) (leZ:ImmLe s₀.heap s.heap) :
  codeAny (model PW W0) A (.forLoop target (.ref it) body [] env) R s:=by
 refine codeAny_forLoop_any (λk s'=>∃ i m₂ hp₂,k=n - i/\i<=n/\J i m₂ hp₂/\Rel B (hp₂.set env.locals (.ns m₂)) s'/\ImmLe s₀.heap s'.heap) (λk s' x=>?_) n ⟨0,m,hp,rfl,Nat.zero_le _,h0,rel,leZ⟩;refine hide λ_ Z=>?_;refine aC x λi m₂ hp₂ V hi hJ r le=>?_;clear x;subst V;apply Z;clear Z;rcases Nat.lt_or_eq_of_le hi with hlt | rfl
 .refine next i m₂ hp₂ s' hlt hJ r le _ _ λv s₁ k=>k _ λsV hp' hv rV leV hJ'=>?_
  refine wpAny_mono (turn i m₂ hp' hlt hJ' _ v rV hv) (λ_ sX x=>?_) λ_ _ x=>x.elim;refine hide λ_ Z=>?_;refine ad x λmX hpX rX leX q=>?_;apply Z;clear Z;refine wpAny_mono (q sX rX) (λfl sj x=>?_) λ_ _ x=>x.elim;refine hide λ_ Z=>?_;refine aw x λaf mj hpj rj lej hf q=>?_;apply Z;clear Z;have leAll:ImmLe s₀.heap sj.heap:=((le.trans leV).trans leX).trans lej;cases af with
  | next=>cases hf;exact ⟨n - (i + 1),Zb5 hlt,i + 1,mj,hpj,rfl,hlt,q,rj,leAll⟩
  | cont=>cases hf;exact ⟨n - (i + 1),Zb5 hlt,i + 1,mj,hpj,rfl,hlt,q,rj,leAll⟩
  | brk=>cases hf;exact hR _ .next _ _ _ rj leAll rfl q
  | ret v=>obtain ⟨u,rfl,hu⟩:=hf;exact hR _ (.ret v) _ _ _ rj leAll ⟨u,rfl,hu⟩ q
 .exact stop m₂ hp₂ s' hJ r le _ _ λs'' hp' r' le' q=>wpAny_execs_nil (hR _ .next _ _ _ r' (le.trans le') rfl q)
noncomputable abbrev Zus (PW:Program) (W0:World) (A:Around) (B:Shared) (env:Env) (ta:Expr) (body:List Stmt) (m:Loc) (hp₂:Hp) (Q:QX) (a:Addr) (xs:List AV) (it en:Addr):Prop:=
 ∃ I:Nat->Loc->Hp->Prop,(∀ o1 o2,I 0 m ((hp₂.set it (.obj o1)).set en (.obj o2)))/\(∀ i m₂ hp₂ ob,I i m₂ hp₂->I i m₂ (hp₂.set it (.obj ob)))/\(∀ i m₂ hp₂ ob,I i m₂ hp₂->I i m₂ (hp₂.set en (.obj ob)))/\(∀ i m₂ hp₂,I i m₂ hp₂->Lst B hp₂ env.locals a xs) /\
   (∀ i x m₂ hp₂ o1 o2,xs[i]?=some x->I i m₂ hp₂->hp₂ it=some (.obj o1)->hp₂ en=some (.obj o2)->ASG (model PW W0) A (λ_ _=>False) B env ta (.tup [.int i,x]) m₂ hp₂ λmX hpX=>EXs (model PW W0) A (λ_ _=>False) B env body mX hpX λfl mj hpj=>
    match fl with | .next | .cont=>I (i + 1) mj hpj/\hpj it=some (.obj o1)/\hpj en=some (.obj o2) | .brk=>Q .next mj hpj | .ret v=>Q (.ret v) mj hpj) /\
   (∀ m₂ hp₂,I xs.length m₂ hp₂->Q .next m₂ (hp₂.del it))
noncomputable abbrev enO (it:Addr) (i:Int) (old:Value):Obj:={ cls:=.type "enumerate",data:=.fields #[.none,.bool false,.ref it,rawInt i,.none,old] }
theorem enO_no {it i old}:¬ Imm (enO it i old):=λi=>by obtain ⟨_,_,_,e⟩:=i;cases e
noncomputable abbrev liO (a:Addr) (i:Nat) (o:Obj):Prop:=o.cls = .type "list_iterator" /\ o.data = .fields #[.ref a,.int i 0]
theorem Zp1 {a i o} (h:liO a i o):¬ Imm o:=λi=>by obtain ⟨_,_,_,e⟩:=i;rw[h.2]at e;cases e
theorem Rel.none2 {s:Shared} (r:Rel B (hp.set env.locals (.ns m)) s):(s.heap.objs.size≠env.locals/\hp s.heap.objs.size=none)/\s.heap.objs.size + 1≠env.locals/\hp (s.heap.objs.size + 1)=none:=by
 have one:∀ x,s.heap.objs.size<=x->x≠env.locals/\hp x=none:=λx hx=>by
  have no:∀ o,(hp.set env.locals (.ns m)) x=some o->False:=λo e=>absurd (r.lt e) (Nat.not_lt.mpr hx);have n1:x≠env.locals:=λe=>no _ (by rw[e,Hp.ss]);refine ⟨n1,?_⟩;cases e:hp x with
  | none=>rfl
  | some o=>exact (no o (by rw[Hp.sn _ _ n1];exact e)).elim
 exact ⟨one _ (Nat.le_refl _),one _ (Nat.le_succ _)⟩
theorem Zl3 {a it en:Addr}{xs:List AV}{i:Nat}{x:AV} {o1:Obj}{old:Value} {hp₂:Hp} {m₂:Loc}{s':Shared}{elts:List Expr} {tk tpos} (r':Rel B (hp₂.set env.locals (.ns m₂)) s') (n1:it≠env.locals) (n2:en≠env.locals) (hei:en≠it)
  (hit:hp₂ it=some (.obj o1)) (c1:liO a i o1) (hen:hp₂ en=some (.obj (enO it (i:Int) old))) (hl:Lst B hp₂ env.locals a xs) (hx:xs[i]?=some x) (E':ET) (W:Option Value->Shared->Prop)
  (hW:∀ v s₁,(∀ U:Unit->Shared->Prop,(∀ sV hp',VR sV.heap (.tup [.int i,x]) v->Rel B (hp'.set env.locals (.ns m₂)) sV->ImmLe s'.heap sV.heap->(∃ oi v',liO a (i + 1) oi/\hp'=(hp₂.set it (.obj oi)).set en (.obj (enO it ((i + 1:Nat):Int) v')))->U () sV)->wpAny (model PW W0) A (letOwnedTupleGo (.Tuple elts tk tpos) (.ref en) v) U E' s₁)->W (some v) s₁) :
  wpAny (model PW W0) A (pyNext (.ref en)) W E' s':=by
 refine aa (r'.lst hl) λvs' hl' hvs'=>?_;refine aa (hvs'.get hx) λv hv hxv=>?_;refine wpAny_pyNext_enum_item (r'.at hen n2).1 ⟨o1,(r'.at hit n1).1,c1.1,c1.2⟩ hl' (by simpa using hv) hei λh₁ heo hit₁ ht₁ hz₁ hk₁=>hW _ _ λU hU=>wpAny_letOwnedTupleGo_enum heo λhV heV hsV=>?_;refine ae (hit₁) λoi' gi' ci' di'=>?_;have t1:=r'.two (e:=en) (it:=it) (by rw[Hp.sn _ _ n2];exact hen) (by rw[Hp.sn _ _ n1];exact hit) hei hk₁ (by rw[hz₁];exact Nat.le_succ _) heo gi' (λi=>by obtain ⟨_,_,_,e⟩:=i;cases e) (Zp1 ⟨ci',di'⟩) (s'.toks + 1);have t2:=t1.1.turn (a:=en) (Hp.ss ..) hsV (.obj (enO it ((i:Int) + 1) v)) (λ_=>⟨heV,enO_no⟩) (s'.toks + 1);rw[Hp.set_set,Hp.sc _ _ _ (Ne.symm n1),Hp.sc _ _ _ (Ne.symm n2)]at t2;have leT:=t1.2.trans t2.2;have htup:hV.get? s'.heap.objs.size=some { cls:=.type "tuple",data:=.seq #[.int i s'.toks,v] }:=t2.2 _ _ ht₁ ⟨.inl rfl,_,_,rfl⟩;refine hU _ _ ?_ t2.1 leT ⟨oi',v,⟨ci',di'⟩,rfl⟩;simp only[VR,VRs];exact ⟨_,#[.int i s'.toks,v],rfl,⟨_,htup,rfl,0,rfl⟩,_,_,rfl,⟨_,rfl⟩,_,_,rfl,hxv.mono leT,rfl⟩
theorem Zov {s:Shared}{it en:Addr}{oi:Obj} {o2:Obj}{h':Heap} (r:Rel B (hp.set env.locals (.ns m)) { s with heap:=h' }) (hit':B.heap.objs.size<=it) (hen':it + 1=en) (gi:h'.get? it=some oi) (ni:¬ Imm oi) (ge:h'.get? en=some o2) (ne:¬ Imm o2) :
  Rel B (((hp.set it (.obj oi)).set en (.obj o2)).set env.locals (.ns m)) { s with heap:=h' }:=by
 refine ⟨r.keep,λz o e=>?_,r.os,r.bare,r.size⟩;by_cases hzL:z=env.locals
 .subst hzL;rw[Hp.ss]at e;cases e;exact r.objs _ _ (Hp.ss ..)
 .rw [Hp.sn _ _ hzL]at e;by_cases hze:z=en
  .subst hze;rw[Hp.ss]at e;cases e;exact ⟨by refine hen'▸?_;exact Nat.le_succ_of_le hit',ge,ne⟩
  .rw [Hp.sn _ _ hze]at e;by_cases hzi:z=it
   .subst hzi;rw[Hp.ss]at e;cases e;exact ⟨hit',gi,ni⟩
   .rw [Hp.sn _ _ hzi]at e;exact r.objs z o (by rw[Hp.sn _ _ hzL];exact e)
theorem Zkb {elts:List Expr} {tk tpos}{func xe:Expr}{body:List Stmt} {cpos pos}{Q:QX} (hh:A.handled=none)
  (h:EV (model PW W0) A E B env func m hp λf hp₁=>f = .ty "enumerate" /\ EVS (model PW W0) A E B env [xe] m hp₁ λvs hp₂=>∃ a xs,vs=[.ref a]/\Lst B hp₂ env.locals a xs/\∀ it en,hp₂ it=none->it≠env.locals->hp₂ en=none->en≠env.locals->en≠it ->
   Zus PW W0 A B env (.Tuple elts tk tpos) body m hp₂ Q a xs it en)
  (hc:eval (.Call func [xe] [] cpos) env=(do callWith cpos (<-eval func env) [] (backTo cpos (starEach [xe] env)) (backToKw cpos (keywordEach [] env))):=by rfl)
  (he:starEach [xe] env=[(false,eval xe env)]:=by rfl)
  (hs:∀ x,foldedSetIterable (.Call func [xe] [] cpos) env x=pure x:=by intro _;rfl) :
  EX (model PW W0) A E B env (.For (.Tuple elts tk tpos) (.Call func [xe] [] cpos) body [] pos) m hp Q:=λs r=>by
 refine wpAny_For (Call_ (h.use r λu s₁ f hp₁ r₁ le₁ hu x=>?_) hc) hs;refine hide λ_ Z=>?_;obtain ⟨hf,q⟩:=x;subst hf;simp only[VR]at hu;subst hu;apply Z;clear Z;refine PyProof.Rows.callWith_type1 (wpAny_mono (q cpos s₁ r₁) (λvs sV x=>?_) λ_ _ x=>x) he rfl;refine hide λ_ Z=>?_;refine aq x λavs hp₂ rV leV hv V=>?_;refine ad V λa xs ah hl q=>?_;clear V;subst ah;obtain ⟨v,rfl,h1⟩:=Zbn hv;simp only[VR]at h1;subst h1;refine aa (rV.lst hl) λus hlst hus=>?_;apply Z;clear Z;refine call_enumerate_list hlst λh' hen hit hz hk=>?_;refine wpAny_pyIter_enum (s:={ sV with heap:=h' }) hen ?_;refine hide λ_ Z=>?_;obtain ⟨⟨n1,f1⟩,n2,f2⟩:=rV.none2;have hei:sV.heap.objs.size + 1≠sV.heap.objs.size:=Nat.succ_ne_self _;refine ae hit λoi gi ci di=>?_;have gr:=rV.grown hk sV.toks;have hlo:=rV.size;generalize sV.heap.objs.size=it at *;generalize hen':it + 1=en at *;refine aP (q it en f1 n1 f2 n2 hei) λI i0 iset jset ilst iturn ifin=>?_;apply Z;clear Z;refine Ztr (n:=xs.length) (el:=λi=>.tup [.int i,xs.getD i .none]) (s₀:=s) (J:=λi m₂ hp₂=>I i m₂ hp₂/\∃ o1 old,liO a i o1/\hp₂ it=some (.obj o1)/\hp₂ en=some (.obj (enO it ((i:Nat):Int) old))) (J':=λi m₂ hp₂=>I i m₂ hp₂/\∃ o1 old,liO a (i + 1) o1/\hp₂ it=some (.obj o1)/\hp₂ en=some (.obj (enO it ((i + 1:Nat):Int) old))) (Q:=Q) (λi m₂ hp₂ s' hi hJ r' le E' W hW=>?_) (λm₂ hp₂ s' hJ r' le E' W hW=>?_) (λi m₂ hp₂ hi hJ=>?_) (λfl af m' hp' s' r' le' hf q=>mkX (af:=af) r' le' hf q)
  ⟨i0 _ _,oi,.none,⟨ci,di⟩,by rw[Hp.sn _ _ (Ne.symm hei),Hp.ss],Hp.ss ..⟩ (Zov (s:=sV) gr.1 hlo hen' gi (Zp1 ⟨ci,di⟩) hen enO_no) ((le₁.trans leV).trans gr.2)
 .refine hide λ_ Z=>?_;obtain ⟨hI,o1,old,hc1,h1,h2⟩:=hJ;apply Z;clear Z;refine Zl3 (x:=xs.getD i .none) r' n1 n2 hei h1 hc1 h2 (ilst _ _ _ hI) (by simp[List.getD,List.getElem?_eq_getElem hi]) E' W λv s₁ k=>hW v s₁ λU hU=>k U λsV hp' hv rV leV ho=>?_;refine hide λ_ Z=>?_;refine am ho λoi v' hoi V=>?_;clear ho;subst V;apply Z;clear Z;exact hU sV _ hv rV leV ⟨jset _ _ _ _ (iset _ _ _ _ hI),oi,v',hoi,by rw[Hp.sn _ _ (Ne.symm hei),Hp.ss],Hp.ss ..⟩
 .refine hide λ_ Z=>?_;obtain ⟨hI,o1,old,hc1,h1,h2⟩:=hJ;refine aa (r'.lst (ilst _ _ _ hI)) λvs' hl' hvs'=>?_;apply Z;clear Z;refine wpAny_pyNext_enum_end hh (r'.at h2 n2).1 ⟨o1,(r'.at h1 n1).1,hc1.1,hc1.2⟩ hl' (Array.getElem?_eq_none (by rw[<-Array.length_toList,hvs'.length];exact Nat.le_refl _)) λh'' hx=>?_;refine hide λ_ Z=>?_;obtain ⟨r'',le''⟩:=r'.drop h1 n1 hx s'.toks;apply Z;clear Z;exact hW _ _ r'' le'' (ifin _ _ hI)
 .refine hide λ_ Z=>?_;obtain ⟨hI,o1,old,hc1,h1,h2⟩:=hJ;apply Z;clear Z;refine (iturn i _ m₂ hp₂ _ _ (by simp[List.getD,List.getElem?_eq_getElem hi]) hI h1 h2).mono λmX hpX x=>x.mono λfl mj hpj y=>?_;cases fl with
  | next=>exact ⟨y.1,_,_,hc1,y.2⟩
  | cont=>exact ⟨y.1,_,_,hc1,y.2⟩
  | brk=>exact y
  | ret v=>exact y
end
noncomputable def Zff (kindOf:PySem.Str->Option NameKind):List (PySem.Str × AV)->Loc->Loc
 | [],m=>m
 | (n,v) :: r,m=>Zff kindOf r (if kindOf n=some .local then upd m n v else m)
noncomputable def Zfg (kindOf:PySem.Str->Option NameKind):List (PySem.Str × AV)->Loc->Loc
 | [],m=>m
 | (n,v) :: r,m=>Zfg kindOf r (if kindOf n=some .local then m else upd m n v)
noncomputable def putCells (hp:Hp) (cs:List (PySem.Str × Addr)) (cm:Loc):Hp:=λa=>match cs.find? (λx=>decide (x.2=a)) with | some x=>some (.cell (cm x.1)) | none=>hp a
theorem Zml {h:Heap}{k:PySem.Str->Option NameKind}:∀ {bs:List (PySem.Str × AV)}{us:List (PySem.Str × Value)}{m:Loc}{mv:PySem.Str->Option Value},us.map (·.1)=bs.map (·.1)->VRs h (bs.map (·.2)) (us.map (·.2))->LocR h m mv->LocR h (Zff k bs m) (bindL k us mv):=by
 intro r_
 induction r_ with
 | nil=>
  intro us m mv e hv x;cases us with
  | nil=>exact x
  | cons _ _=>nomatch e
 | cons kv_ bs ih=>
  obtain ⟨n,v⟩:=kv_;intro us m mv e hv x;cases us with
  | nil=>nomatch e
  | cons u us=>
   obtain ⟨n',u⟩:=u;simp only[List.map_cons,List.cons.injEq,VRs]at e hv;obtain ⟨rfl,e2⟩:=e;obtain ⟨_,_,⟨rfl,rfl⟩,h1,h2⟩:=hv;dsimp only[Zff,bindL];refine ih e2 h2 ?_;split
   .exact x.upd h1
   .exact x
theorem Zmm {h:Heap}{k:PySem.Str->Option NameKind}:∀ {bs:List (PySem.Str × AV)}{us:List (PySem.Str × Value)}{m:Loc}{mv:PySem.Str->Option Value},us.map (·.1)=bs.map (·.1)->VRs h (bs.map (·.2)) (us.map (·.2))->LocR h m mv->LocR h (Zfg k bs m) (bindC k us mv):=by
 intro r_
 induction r_ with
 | nil=>
  intro us m mv e hv x;cases us with
  | nil=>exact x
  | cons _ _=>nomatch e
 | cons kv_ bs ih=>
  obtain ⟨n,v⟩:=kv_;intro us m mv e hv x;cases us with
  | nil=>nomatch e
  | cons u us=>
   refine hide λ_ Z=>?_;obtain ⟨n',u⟩:=u;simp only[List.map_cons,List.cons.injEq,VRs]at e hv;obtain ⟨rfl,e2⟩:=e;obtain ⟨_,_,⟨rfl,rfl⟩,h1,h2⟩:=hv;apply Z;clear Z;dsimp only[Zfg,bindC];refine ih e2 h2 ?_;split
   .exact x
   .exact x.upd h1
section
variable {K:Frag}
end
open PySem PySem.W PyProof.Rows PySem.Calls Builtin
set_option maxHeartbeats 4000000
structure MatK (PW:Program) (W0:World) (K:Frag):Prop where
 call:specialIn K (.ref 135) "__call__" = some (some (.builtin "type.__call__"))
 typ:instIn K (.ref 135) (.type "type")=some true
 made:peek K ⟨PW,W0.params⟩ (Bind.madeBy (.ref 135))=some none
 chk:∀ a,peek K ⟨PW,W0.params⟩ (checkBuiltinCall "tuple.__new__" ⟨[.ref 135,a],[]⟩)=some ()
 mro:peek K ⟨PW,W0.params⟩ (mroOf (.ref 135))=some [.ref 135,.type "tuple",.type "object"]
 here:peek K ⟨PW,W0.params⟩ (Bind.madeHere "tuple.__new__" (.ref 135))=some ()
 isty:peek K ⟨PW,W0.params⟩ (isType (.ref 135))=some true
 self:mroIn K 135 (.ref 135)=some true
 top:mroIn K 135 (.type "object")=some true
 tup:mroIn K 135 (.type "tuple")=some true
 init:findIn K (.ref 135) "__init__" = some (some (.builtin "object.__init__"))
 reads:readsIn K 135 (.type "type")=true
 find:findCls K (.ref 135) (.type "type") "__new__" = some (.get (.builtin "staticmethod.__get__") (.ref 136) .none (.ref 135))
 sm:recIn K 136 "staticmethod" = some [.ref 82]
 tnew:findCls K (.type "tuple") (.type "type") "__new__" = some (.val (.builtin "tuple.__new__"))
 del:∃ oc od cd sl,K.lookup 135=some ⟨oc,od,.cls cd,sl⟩/\cd.hasDel=false
noncomputable def Zpb (K:Frag) (R:Result->Shared->Prop) (r:Result) (s':Shared):Prop:=match r with
 | .ok (.ret v)=>∃ x o,v = .ref x/\s'.heap.get? x=some o/\o.cls = .ref 135/\K.In s'.heap/\R (.ok (.ret (.ref x))) s'
 | .ok _=>False
 | .error e=>R (.error e) s'
theorem Zn6 (a b c d:Value):argsOk "object.__init__" ⟨[a,b,c,d],[]⟩:=by unfold argsOk;kernel_rfl
section
variable {A:Around}{K:Frag}{R:Result->Shared->Prop}{h:Heap}{g:Array GenState}{d:Drawn}{t:Nat}{os:OsState}
theorem Zsd (Y:MatK PW W0 K) {x:Addr}{o:Obj} {u1 u2 u3:Value} (X:K.In h) (hx:h.get? x=some o) (hc:o.cls = .ref 135) (q:R (.ok (.ret .none)) ⟨h,g,d,t,os⟩) :
  codeAny (model PW W0) A (.call (.builtin "object.__init__") ⟨[.ref x,u1,u2,u3],[]⟩) R ⟨h,g,d,t,os⟩:=by
 have t1:Looks (model PW W0) h (typeOf (.ref x)) (.ref 135):=by refine hc▸?_;exact (Looks.ld hx).andThen .now
 have t2:Looks (model PW W0) h (isInstance (.ref x) (.type "object")) true:=t1.andThen (looks_mroIn X Y.top);have t3:=looks_findIn (M:=model PW W0) X Y.init;have t4:Looks (model PW W0) h (Bind.madeBy (.ref 135)) none:=Looks.of_peek X Y.made;refine codeAny_call_builtin oi_plain entry_oi (@check_slot (model PW W0) _ _ _ "object.__init__" "object" "__init__" (.ref x) [u1,u2,u3] [] _ oi_kind oi_split t2 (Zn6 (.ref x) u1 u2 u3) ?_);unfold Builtin.«object.__init__»;dsimp only;refine wB ?_;refine t1.at (wB (t3.at (wB (t4.at ?_))));dsimp only [bne_self_eq_false,Bool.false_eq_true,if_false];exact wP q
theorem Zog (Y:MatK PW W0 K) {u1 u2 u3:Value} (X:K.In h)
  (hq:codeAny (model PW W0) (A.under (.builtin "type.__call__" ⟨[.ref 135,u1,u2,u3],[]⟩)) (.call (.ref 82) ⟨[.ref 135,u1,u2,u3],[]⟩) (Zpb K R) ⟨h,g,d,t + 1,os⟩) :
  codeAny (model PW W0) A (.call (.ref 135) ⟨[u1,u2,u3],[]⟩) R ⟨h,g,d,t,os⟩:=by
 refine hide λ_ Z=>?_;refine aO Y.del λoc od cd sl hC e2=>?_;apply Z;clear Z;have call:=looks_specialIn (M:=model PW W0) X Y.call;have typ:=looks_instIn (M:=model PW W0) X Y.typ;have hm:Looks (model PW W0) h (mroOf (.ref 135)) _:=Looks.of_peek X Y.mro;have made:Looks (model PW W0) h (Bind.madeBy (.ref 135)) none:=Looks.of_peek X Y.made;refine codeAny_of_tree ?_;show wpAny _ _ (callAny (.ref 135) _) _ _ _;refine nd_load (X _ _ hC) ?_;show wpAny _ _ (callAny.viaDunder (.ref 135) _) _ _ _;unfold callAny.viaDunder;refine wB (call.at ?_);dsimp only;rw[tc_bind];refine wB (wP (wB (wP ?_)));refine wP (a:=Fin.again (.call (.builtin "type.__call__") ⟨[.ref 135,u1,u2,u3],[]⟩)) (And.intro rfl ?_);refine codeAny_call_builtin_at (Code.quiet_builtin _ (by decide +kernel)) entry_typeCall (check_slot tc_kind tc_split typ (tc_args _ _ _) ?_);unfold Builtin.«type.__call__»;dsimp only;have f0:(Value.ref 135 == Value.type "type")=false:=rfl;simp -iota only [f0,Bool.false_eq_true,if_false];refine wB (hm.at ?_);dsimp only [List.isEmpty_cons,Bool.false_eq_true,if_false];refine wB (made.at ?_);dsimp only;refine wB ?_;refine cls_bind X Y.reads Y.find ?_;refine wpAny_call (sm_get X Y.sm ?_);dsimp only;refine handed_on (by rfl) ?_;refine wB (wpAny_holding (wpAny_call ?_));refine codeAny_mono hq λr s' z=>?_;rcases r with e | (v | _ | _ | _) <;> first | exact z | exact z.elim | skip
 refine hide λ_ Z=>?_;refine aE z λx o V hx hc X' q=>?_;clear z;subst V;obtain ⟨h',g',d',t',os'⟩:=s';apply Z;clear Z;have t1:Looks (model PW W0) h' (typeOf (.ref x)) (.ref 135):=by refine hc▸?_;exact (Looks.ld hx).andThen .now
 have t2:Looks (model PW W0) h' (isInstance (.ref x) (.ref 135)) true:=t1.andThen (looks_mroIn X' Y.self);refine wB (t2.at ?_);simp -iota only [Bool.not_true,Bool.false_eq_true,if_false];refine wB (wpAny_holding ?_);delta callSpecial? specialOf;refine wB (wB (t1.at ((looks_findIn X' Y.init).at (wpAny_holding ?_))));rw[oi_bind];refine wB (wP (wB (wpAny_call (Zsd Y X' hx hc ?_))));exact wP (wP q)
end
section
variable {K:Frag}
theorem Zn1:plainId "tuple.__new__" = true:=by decide +kernel
theorem Ztv {a b c:AV}{Q:QV} (G:Gnd K B) (Y:MatK PW W0 K)
  (h:∀ vs,CD (model PW W0) (A.under (.builtin "type.__call__" ⟨.ref 135 :: vs,[]⟩)) E B env (.ref 82) m [.ref 135,a,b,c] hp λv hp'=>(∃ xs,v = .mat xs)/\Q v hp') :
  CL (model PW W0) A E B env (.ref 135) m [a,b,c] hp Q:=λs vs r hv=>by
 obtain ⟨u1,u2,u3,rfl,h1,h2,h3⟩:∃ u v W0,vs=[u,v,W0]/\VR s.heap a u/\VR s.heap b v/\VR s.heap c W0:=by simp only[VRs]at hv;refine ad hv λv r V h1 ah=>?_;clear hv;subst V;refine ad ah λu r' aB h2 ar=>?_;clear ah;subst aB;refine ad ar λz r'' aG h3 aF=>?_;clear ar;subst aG;subst aF;exact ⟨_,_,_,rfl,h1,h2,h3⟩
 refine wpAny_call ?_;have hh:=h [u1,u2,u3] { s with toks:=s.toks + 1 } [.ref 135,u1,u2,u3] (r.toks _) (by simp only[VRs];exact ⟨_,_,rfl,VR_ref,_,_,rfl,h1,_,_,rfl,h2,_,_,rfl,h3,rfl⟩);obtain ⟨heap,g,d,t,os⟩:=s;refine Zog Y (G.X.keeps r.keep) (codeAny_mono hh λrr s' z=>?_);rcases rr with e | (v | _ | _ | _) <;> first | exact z | exact z.elim | skip
 obtain ⟨av,hp',r',le',hv',⟨xs,rfl⟩,q⟩:=z;have hv2:=hv';simp only[VR]at hv';obtain ⟨x,us,rfl,⟨o,ho,hc,n,hd⟩,hu⟩:=hv';exact ⟨x,o,rfl,ho,hc,G.X.keeps r'.keep,_,hp',r',le',hv2,q⟩
theorem Zm5 {xs:List AV}{Q:QV} (G:Gnd K B) (Y:MatK PW W0 K) (hsz:xs.length<=sizeLine) (h:Q (.mat xs) hp):CL (model PW W0) A E B env (.builtin "tuple.__new__") m [.ref 135,.tup xs] hp Q:=λs vs r hv=>by
 refine hide λ_ Z=>?_;refine ad (Zbg hv) λv u V h1 h2=>?_;subst V;simp only[VR]at h1 h2;subst h1;obtain ⟨a,us,rfl,⟨o,ho,hc,n,hd⟩,hu⟩:=h2;have hlen:us.size<=sizeLine:=by refine Array.length_toList▸hu.length▸?_;exact hsz
 have X:=G.X.keeps r.keep;refine aO Y.del λoc od cd sl hC e2=>?_;apply Z;clear Z;refine wpAny_call (codeAny_call_builtin Zn1 PySem.F.entry_tuple_new (Looks.here (Looks.of_peek X (Y.chk _)) ?_));unfold Builtin.«tuple.__new__»;dsimp only;refine wB ((Looks.of_peek (M:=model PW W0) X Y.isty).here ?_);simp only[Bool.not_true,Bool.false_eq_true,if_false];refine wB ((looks_mroIn X Y.tup).here ?_);simp only[Bool.not_true,Bool.false_eq_true,if_false];refine wB ((Looks.of_peek (M:=model PW W0) X Y.here).here ?_);refine wB ((looks_findIn X Y.init).here ?_);simp only[beq_self_eq_true,if_true];refine wB ?_;refine wpAny_of_eq (a:=()) (by rfl) ?_;refine wB (wpAny_of_eq (a:=()) (by rfl) ?_);have f0:(Value.ref 135 == Value.type "tuple")=false:=rfl;simp only[f0,Bool.false_eq_true,if_false];refine wB (wpAny_collect_seq (hsz:=hlen) a (.inr rfl) ho hc hd λh' hk=>?_);refine wB (wP ?_);refine wB (wpAny_alloc ?_);refine wB ?_;unfold newObj;dsimp only;rw[if_neg (by simp only[List.size_toArray,Array.length_toList];(exact Nat.not_lt.mpr ‹_›))];delta newObjAsIs classHasDel;have hC':=hk _ _ (X _ _ hC);refine wB (wpAny_alloc (wB (wB (wpAny_load (Heap.get?_push_of_some _ (Heap.get?_push_of_some _ hC')) (wP ?_)))));refine e2▸?_;refine wP (wP ?_);refine hide λ_ Z=>?_;obtain ⟨r1,le1⟩:=r.grown hk s.toks;apply Z;clear Z;have r2:=(r1.push emptyDict).push { cls:=.ref 135,dict:=some h'.objs.size,data:=.seq us.toList.toArray };have le2:ImmLe s.heap ((h'.push emptyDict).push { cls:=.ref 135,dict:=some h'.objs.size,data:=.seq us.toList.toArray }):=ImmLe.keep λb o e=>Heap.get?_push_of_some _ (Heap.get?_push_of_some _ (hk _ _ e));refine mkV (av:=.mat xs) r2 le2 (?_) h;simp only[VR];exact ⟨_,us.toList.toArray,rfl,⟨_,Heap.get?_push_size _ rfl,rfl,0,rfl⟩,by simpa using hu.mono le2⟩
theorem Zlt {s:Shared}{pl:Sem Bool}{Q:Value × List Value->Shared->Prop} (X:K.In s.heap) (Y:MatK PW W0 K)
  (h:Q (.builtin "tuple.__new__",[]) { s with toks:=s.toks + 1 }):wpAny (model PW W0) A (getMethod (.type "tuple") (PySem.Str.ofString "__new__") pl) Q E s:=by
 have hstub:opaqueClassAbove (.type "tuple")=pure none:=by unfold opaqueClassAbove;dsimp only;refine (show Manifest.isStub "tuple" = false by decide +kernel)▸?_;rfl
 have ht:typeOf (.type "tuple")=pure (.type "type"):=by rfl
 have L0:Looks (model PW W0) s.heap (typeOf (.type "tuple")) (.type "type"):=Looks.of_pure ht;have hg:findIn K (.type "type") "__getattribute__" = some (some (.builtin "type.__getattribute__")):=type_tga;delta getMethod specialOf;refine wB (wB (L0.here ((looks_findIn X hg).here ?_)));dsimp only;rw[if_pos canon_tga];refine wB (wpAny_mono (Q:=λv=>Q (v,[])) (E:=E) ?_ (λ_ _ z=>wP z) λ_ _ z=>z);have LO:Looks (model PW W0) s.heap (opaqueClassAbove (.type "tuple")) none:=Looks.of_pure hstub;refine cls_open X LO L0 hg (looks_hook X (r:=none) (by rfl)) (by show subIn K _ _=_;rfl) Y.tnew ?_;exact wP (handed_on (by rfl) h)
theorem Zm0 {o e:Expr}{rest:List Expr} {apos pos}{pl:Sem Bool}{Q:QV} (G:Gnd K B) (Y:MatK PW W0 K)
  (h:EV (model PW W0) A E B env o m hp λv hp₁=>v = .ty "tuple" /\ EVS (model PW W0) A E B env (e :: rest) m hp₁ λvs hp₂=>CL (model PW W0) A E B env (.builtin "tuple.__new__") m vs hp₂ Q)
  (hc:eval (.Call (.Attribute o (PySem.Str.ofString "__new__") apos) (e :: rest) [] pos) env=(do
   let ov <-eval o env
   standAt apos.atName
   let (f,first) <-holding [ov] (getMethod ov (PySem.Str.ofString "__new__") pl)
   callWith pos f first (backTo pos (starEach (e :: rest) env)) []):=by rfl)
  (he:starEach (e :: rest) env=(false,eval e env) :: starEach rest env:=by rfl) (hplain:(backTo pos (starEach rest env)).any (·.1)=false:=by rfl) :
  EV (model PW W0) A E B env (.Call (.Attribute o (PySem.Str.ofString "__new__") apos) (e :: rest) [] pos) m hp Q:=λs r=>by
 refine MethodCall_ (pl:=pl) (h.use r λu s₁ l hp₁ r₁ le₁ hu x=>?_) hc;obtain ⟨rfl,q⟩:=x;simp only[VR]at hu;subst hu;refine Zlt (G.X.keeps r₁.keep) Y ?_;refine callWith_builtin1 (Zcr (q pos _ (r₁.toks _)) λvs sV avs hp₂ rV leV hv q=>?_) he hplain;exact useV (q sV vs rV hv) λv sX av hpX rX leX hv q=>mkV rX ((le₁.trans leV).trans leX) hv q
theorem Zm2 {o:Expr}{name:PySem.Str} {pos}{T id gid:String}{Q:QV} (b:BndOk T name id gid)
  (hck:∀ {A:Around}{a:Addr}{s:Shared}{o:Obj}{Q:ET},s.heap.get? a=some o->o.cls = .type T->Q (.ref s.heap.objs.size) { s with heap:=s.heap.push (Zbb id a) }->wpAny (model PW W0) A (call (.builtin "method_descriptor.__get__") [.builtin id,.ref a,.type T]) Q (λ_ _=>False) s)
  (h:EV (model PW W0) A E B env o m hp λv hp₁=>∃ a,v = .ref a/\(∀ s,Rel B (hp₁.set env.locals (.ns m)) s->∃ ob,s.heap.get? a=some ob/\ob.cls = .type T/\ob.dict=none/\∀ c,ob.data≠.cls c)/\∀ x,hp₁ x=none->x≠env.locals->Q (.ref x) (hp₁.set x (.obj (Zbb id a))))
  (he:eval (.Attribute o name pos) env=(do
   let ov <-eval o env
   standAt pos.atName
   let r <-holding [ov] (getAttr ov name true)
   letTemporaryGo o ov r
   pure r):=by with_unfolding_all rfl) :
  EV (model PW W0) A E B env (.Attribute o name pos) m hp Q:=λs r=>by
 rw[he];refine wB (h.use r λv s₁ av hp₁ r₁ le₁ hv x=>wB (wpAny_standAt (wB (wpAny_holding ?_))));refine hide λ_ Z=>?_;refine ae x λa V hty q=>?_;clear x;subst V;simp only[VR]at hv;subst hv;refine ap (hty s₁ r₁) λob ho hcl hdn hn=>?_;apply Z;clear Z;refine Zdl b ho hcl hdn hn (λho hc h=>hck ho hc h) ?_;have n:=r₁.newAt (Zbb id a) (.obj (Zbb id a)) ⟨Heap.get?_push_size _ rfl,bndOb_notImm⟩;exact wB (wpAny_letTemporaryGo (wP (mkV (av:=.ref _) (n.1.toks _) (le₁.trans n.2.2.2) VR_ref (q _ n.2.1 n.2.2.1))))
end
section
variable {K:Frag}
end
section
variable {K:Frag}
end
noncomputable def IsSeq (h:Heap) (t:Addr) (items:Array Value):Prop:=∃ o n,h.get? t=some o/\o.data = .seq items n
theorem IsMat.seq {h:Heap}{t:Addr}{items:Array Value} (x:IsMat h t items):IsSeq h t items:=let ⟨o,ho,_,n,hd⟩:=x;⟨o,n,ho,hd⟩
theorem IsSeq.extBut {h h':Heap}{t it:Addr}{items:Array Value} (x:IsSeq h t items) (e:Heap.ExtBut it h h') (hne:t≠it):IsSeq h' t items:=let ⟨o,n,ho,hd⟩:=x;⟨o,n,e t o hne ho,hd⟩
theorem IsSeq.push {h:Heap}{t:Addr}{items:Array Value} (x:IsSeq h t items) (ob:Obj):IsSeq (h.push ob) t items:=let ⟨o,n,ho,hd⟩:=x;⟨o,n,Heap.get?_push_of_some _ ho,hd⟩
section
variable {A:Around}{E:ET}{s:Shared}
theorem Znu {it t:Addr}{i:Nat}{items:Array Value}{x:Value}{Q:Option Value->Shared->Prop} (hit:IsTupIter s.heap it t i) (ht:IsSeq s.heap t items) (hx:items[i]?=some x)
  (hQ:∀ h',IsTupIter h' it t (i + 1)->Heap.SameBut it s.heap h'->Q (some x) { s with heap:=h' }):wpAny (model PW W0) A (pyNext (.ref it)) Q E s:=by
 refine hide λ_ Z=>?_;refine ae (id hit) λo ho hc hd=>?_;refine am ht λol nl hol hdl=>?_;apply Z;clear Z;unfold pyNext;refine wB (wpAny_attempt (wpAny_callSpecial?_slot (name:=PySem.Str.ofString "__next__") hit.typeIs slot_tupleiter_next (wpAny_call_entry slot_tupleiter_next hit.typeIs entry_tupleiter_next ?_ (args_tupleiter_next _))));show wpAny _ _ (field (.ref it) 0 >>= _) _ _ s;refine wB (wpAny_field ho hd (x:=.ref t) rfl ?_);show wpAny _ _ (if (Value.ref t == Value.none)=true then _ else _) _ _ s;rw[if_neg (show ¬ ((Value.ref t == Value.none)=true) from Bool.false_ne_true)];show wpAny _ _ (field (.ref it) 1 >>= _) _ _ s;refine wB (wpAny_field ho hd (x:=.int i 0) rfl ?_);show wpAny _ _ (seqItems? (.ref t) >>= _) _ _ s;refine wB (wpAny_seqItems hol hdl ?_);simp only[Int.toNat_natCast,hx];refine wB (wpAny_setField ho hd (by simp) (wP ⟨x,rfl,wP (hQ _ ?_ (Heap.SameBut.update ..))⟩));exact ⟨_,Heap.get?_update_self _ ho (Obj.isFreed_of_fields (Obj.data_mapFields hd _)),(Obj.cls_mapFields ..).trans hc,by rw[Obj.data_mapFields hd];rfl⟩
theorem Zqo {it t:Addr}{i:Nat}{items:Array Value}{Q:Option Value->Shared->Prop} (hh:A.handled=none) (hit:IsTupIter s.heap it t i) (ht:IsSeq s.heap t items) (hx:items[i]?=none)
  (hQ:∀ h',Heap.ExtBut it s.heap h'->Q none { s with heap:=h' }):wpAny (model PW W0) A (pyNext (.ref it)) Q E s:=by
 refine hide λ_ Z=>?_;refine ae (id hit) λo ho hc hd=>?_;refine am ht λol nl hol hdl=>?_;apply Z;clear Z;unfold pyNext;refine wB (wpAny_attempt (wpAny_callSpecial?_slot (name:=PySem.Str.ofString "__next__") hit.typeIs slot_tupleiter_next (wpAny_call_entry slot_tupleiter_next hit.typeIs entry_tupleiter_next ?_ (args_tupleiter_next _))));show wpAny _ _ (field (.ref it) 0 >>= _) _ _ s;refine wB (wpAny_field ho hd (x:=.ref t) rfl ?_);show wpAny _ _ (if (Value.ref t == Value.none)=true then _ else _) _ _ s;rw[if_neg (show ¬ ((Value.ref t == Value.none)=true) from Bool.false_ne_true)];show wpAny _ _ (field (.ref it) 1 >>= _) _ _ s;refine wB (wpAny_field ho hd (x:=.int i 0) rfl ?_);show wpAny _ _ (seqItems? (.ref t) >>= _) _ _ s;refine wB (wpAny_seqItems hol hdl ?_);simp only[Int.toNat_natCast,hx];refine wB (wpAny_rule (wB (wpAny_setField ho hd (by simp) ?_)));show wpAny _ _ (newExc (.type "StopIteration") [] >>= _) _ _ _;refine wB ?_;simp only[newExc,newTuple];refine wB (wpAny_newObj_type ?_ (by size_fits));refine wB (m:=firstArgMember _ _) (wpAny_of_eq (a:=Value.none) (by rfl) ?_);refine wpAny_newObj_type ?_ (by size_fits);dsimp only [raiseNew];refine wB (wpAny_handled ?_);rw[show A.in1.handled=none from hh];refine wB (wP (wpAny_throw ?_));refine wB (wpAny_isInstance (T := "StopIteration") (b:=true) ⟨_,Heap.get?_push_size _ rfl,rfl⟩ isSubtype_stop ?_);exact wP (hQ _ (((Heap.SameBut.update ..).extBut.push _).push _))
theorem Znv {it t:Addr}{items:Array Value} (hne:t≠it):∀ (n i:Nat) (s:Shared) (Q:List Value->Shared->Prop),IsTupIter s.heap it t i->IsSeq s.heap t items->i + n<=items.size ->
  (∀ h',IsTupIter h' it t (i + n)->Heap.SameBut it s.heap h'->Q ((items.toList.drop i).take n) { s with heap:=h' })->wpAny (model PW W0) A (draw (.ref it) n) Q E s:=by
 intro r_
 induction r_ with
 | zero=>
  intro i s Q hit _ _ hQ;exact wP (by simpa using hQ s.heap hit (Heap.SameBut.refl ..))
 | succ n ih=>
  intro i s Q hit ht hle hQ;have hlt:i < items.size:=by (exact ul0 ‹_›)
  show wpAny _ _ (pyNext (.ref it) >>= _) Q E s;refine wB (Znu hit ht (x:=items[i]) (by simp) λh₁ hit₁ hs₁=>?_);refine wB (wpAny_holding (ih (i + 1) _ _ hit₁ (ht.extBut hs₁.extBut hne) (by (exact F30 0x986700596807050 0x11 rfl hle)) λhV hitV hsV=>wP ?_));have hd:items.toList.drop i=items[i] :: items.toList.drop (i + 1):=by simp[List.drop_eq_getElem_cons,hlt]
  have:=hQ hV (by rw[show i + (n + 1)=i + 1 + n by (exact F20 0x86700680706 0x11 rfl)];exact hitV) (hs₁.trans hsV);rw[hd,List.take_succ_cons]at this;exact this
theorem Zqj:builtinKind "tuple.__iter__" = some .slot:=by decide +kernel
theorem Znm:splitId "tuple.__iter__" = some ("tuple", "__iter__"):=by decide +kernel
theorem Zoo {K:Frag}{t:Addr}{items:Array Value}{Q:ET} (X:K.In s.heap) (hf:findIn K (.ref 135) "__iter__" = some (some (.builtin "tuple.__iter__"))) (hm:mroIn K 135 (.type "tuple")=some true) (ht:IsMat s.heap t items)
  (hQ:Q (.ref s.heap.objs.size) { s with heap:=s.heap.push { cls:=.type "tuple_iterator",data:=.fields #[.ref t,.int 0 0] } }):wpAny (model PW W0) A (pyIter (.ref t)) Q E s:=by
 refine hide λ_ Z=>?_;obtain ⟨o,ho,hc,n,hd⟩:=ht;apply Z;clear Z;have t1:Looks (model PW W0) s.heap (typeOf (.ref t)) (.ref 135):=by refine hc▸?_;exact (Looks.ld ho).andThen .now
 have t2:Looks (model PW W0) s.heap (isInstance (.ref t) (.type "tuple")) true:=t1.andThen (looks_mroIn X hm);have t3:=looks_findIn (M:=model PW W0) X hf;have go:∀ {W:ET},W (.ref s.heap.objs.size) { s with heap:=s.heap.push { cls:=.type "tuple_iterator",data:=.fields #[.ref t,.int 0 0] } }->wpAny (model PW W0) A (call (.builtin "tuple.__iter__") [.ref t]) W E s:=λ{W} hW=>by refine wpAny_call (codeAny_call_builtin slot_tuple_iter.plain entry_tuple_iter (check_slot Zqj Znm t2 (args_tuple_iter _) ?_));show wpAny _ _ (do ret (<-newFields "tuple_iterator" [.ref t,rawInt 0])) _ _ s;exact wB (wpAny_newObj_type (wP hW))
 delta pyIter callSpecialIfBoundUnlessNone? bindSpecialIfBound? specialOf;refine wB (wB (t1.here (t3.here ?_)));dsimp only;refine wB (wpAny_holding (wB (wB (wB (t1.here (t3.here ?_))))));dsimp only;rw[slot_tuple_iter.bind];refine wB (wpAny_askSetting (wpAny_ite ?_));have fin:∀ {W:Option Value->Shared->Prop},W (some (.ref s.heap.objs.size)) { s with heap:=s.heap.push { cls:=.type "tuple_iterator",data:=.fields #[.ref t,.int 0 0] } }->wpAny (model PW W0) A (if (Value.builtin "tuple.__iter__" == Value.none)=true then ((do rule "iter.none";raiseError "TypeError" s!"'{← typeNameOf (.ref t)}' object is not iterable") >>= λv=>pure (some v)) else (call (.builtin "tuple.__iter__") [.ref t] >>= λv=>pure (some v))) W E s:=λ{W} hW=>by rw[if_neg (by rw[builtin_beq_none];decide)];exact wB (go (wP hW))
 have last:wpAny (model PW W0) A (match some (Value.ref s.heap.objs.size) with
  | some it=>(do match <-specialOf it "__next__" with
   | none=>rule "iter.non-iterator";raiseError "TypeError" s!"iter() returned non-iterator of type '{← typeNameOf it}'"
   | some _=>pure it)
  | none=>unsupported "") Q E { s with heap:=s.heap.push { cls:=.type "tuple_iterator",data:=.fields #[.ref t,.int 0 0] } }:=
  wB (wpAny_specialOf (T := "tuple_iterator") ⟨_,Heap.get?_push_size _ rfl,rfl⟩ slot_tupleiter_next.lookup (wP hQ))
 split
 .exact wB (wP (wP (fin last)))
 .exact wpAny_tryCatch (wB (wP (wP (fin last))))
end
section
variable {K:Frag}
theorem Zet {s:Shared}{t:Addr}{items:Array Value}{Q:List Value->Shared->Prop} (X:K.In s.heap) (hf:findIn K (.ref 135) "__iter__" = some (some (.builtin "tuple.__iter__"))) (hm:mroIn K 135 (.type "tuple")=some true) (hh:A.handled=none) (ht:IsMat s.heap t items)
  (hQ:∀ h',Heap.ExtBut s.heap.objs.size s.heap h'->Q items.toList { s with heap:=h' }):wpAny (model PW W0) A (unpackItems (.ref t) items.size none) Q E s:=by
 refine hide λ_ Z=>?_;have hts:=ht.seq;have hlt:t≠s.heap.objs.size:=by obtain ⟨o,n,ho,_⟩:=hts;exact Nat.ne_of_lt (Heap.lt_size ho)
 obtain ⟨o,ho,hc,n,hd⟩:=id ht;apply Z;clear Z;have t1:Looks (model PW W0) s.heap (typeOf (.ref t)) (.ref 135):=by refine hc▸?_;exact (Looks.ld ho).andThen .now
 delta unpackItems notIterableAtAll specialOf;refine wB (wB (wB (t1.here ((looks_findIn X hf).here ?_))));refine wP ?_;simp only[Bool.false_eq_true,if_false];refine wB (wpAny_holding (Zoo X hf hm ht ?_));refine wB (wpAny_holding (Znv hlt items.size 0 _ _ ⟨_,Heap.get?_push_size _ rfl,rfl,rfl⟩ (hts.push _) (by (exact F10 0x770405 0x1 rfl)) λh₁ hit₁ hs₁=>?_));have hall:List.take items.size (List.drop 0 items.toList)=items.toList:=by rw[List.drop_zero];exact List.take_of_length_le (by simp)
 refine hall.symm▸?_;rw[if_neg (by simp)];have ht₁:IsSeq h₁ t items:=(hts.push _).extBut hs₁.extBut hlt;refine wB (wpAny_holding (Zqo hh hit₁ ht₁ (by simp) λhV heV=>?_));simp;exact wP (hQ hV λb o hb e=>heV b o hb (hs₁.extBut b o hb (Heap.get?_push_of_some _ e)))
theorem Zd6 {elts:List Expr} {k pos}{xs:List AV}{ts:List (Value->Sem Unit)}{Q:Loc->Hp->Prop} (G:Gnd K B) (hf:findIn K (.ref 135) "__iter__" = some (some (.builtin "tuple.__iter__"))) (hm:mroIn K 135 (.type "tuple")=some true) (hh:A.handled=none) (hts:(assignEach elts env).map (·.2)=ts) (hn:(assignEach elts env).length=xs.length) (hstar:(assignEach elts env).findIdx? (·.1)=none)
  (h:ASGS (model PW W0) A E B env ts xs m hp Q):ASG (model PW W0) A E B env (.Tuple elts k pos) (.mat xs) m hp Q:=λs v r hv=>by
 simp only[VR]at hv;refine ad hv λa vs V ht hvs=>?_;clear hv;subst V;rw[PyProof.Rows.assign_Tuple];refine wB (wpAny_standAt ?_);unfold unpack;refine hn▸hstar▸hvs.length▸Array.length_toList▸?_;refine wB (wpAny_holding (Zet (G.X.keeps r.keep) hf hm hh ht λh' he=>?_));obtain ⟨r',le⟩:=r.ext he s.toks;refine hts▸?_;exact useA (h _ _ r' (hvs.mono le)) λ_ sV m₂ hp₂ rV leV q=>mkA rV (le.trans leV) q
theorem Zcp {a b:Int}{Q:QV} (hb:b≠0) (hs:b.natAbs < 1073741824) (h:Q (.int (a.fdiv b)) hp):OP2 (model PW W0) A E B env (binaryOp .FloorDiv) m (.int a) (.int b) hp Q:=λs u v r hu hv=>by simp only[VR]at hu hv;obtain ⟨t,rfl⟩:=hu;obtain ⟨t',rfl⟩:=hv;exact PyProof.Rows.floordiv_int hb ⟨_,hp,r.toks _,.refl _,VR_int,h⟩ (.inl (PyProof.noPylong_small hs))
end
section
variable {K:Frag}
theorem Zeh {s:Shared}{value:Expr}{lower upper:Option Expr}{p pos:Pos}{T id:String}{Q:ET}
  (hl:typeLookup (.type T) "__getitem__" = pure (some (.builtin id)))
  (h:wpAny (model PW W0) A (eval value env) (λo s₁=>wpAny (model PW W0) A (eval (.Slice lower upper none p) env) (λi sV=>sV.TypeIs o T/\wpAny (model PW W0) A (getItem o i) Q E sV) E s₁) E s) :
  wpAny (model PW W0) A (eval (.Subscript value (.Slice lower upper none p) pos) env) Q E s:=by
 dsimp only[eval_Subscript];refine wB (wpAny_mono h (λo s₁ h₁=>wB (wpAny_holding (wpAny_mono h₁ (λi sV hV=>wB (wpAny_standAt ?_)) λ_ _ x=>x))) λ_ _ x=>x);have fin:wpAny (model PW W0) A (operate [i,o] (getItem o i)) (λr sX=>wpAny (model PW W0) A (letTemporaryGo value o r >>= λ_=>pure r) Q E sX) E sV:=
  wpAny_operating (wpAny_mono hV.2 (λr sX hX=>wB (wpAny_letTemporaryGo (wP hX))) λ_ _ x=>x)
 refine wB ?_;rw[getitemInPython_of_ne hV.1.not_modules];refine wB (wpAny_specialOf hV.1 hl ?_);exact wP (wB fin)
theorem Zm3 {value:Expr}{lower upper:Option Expr} {p pos}{Q:QV}
  (h:EV (model PW W0) A E B env value m hp λo hp₁=>optE (model PW W0) A E B env lower m hp₁ λlo hp₂=>optE (model PW W0) A E B env upper m hp₂ λhi hpX=>
   ∃ a xs kl ku,o = .ref a/\Lst B hpX env.locals a xs/\xs.length<=sizeLine/\Zgo lo=some kl/\Zgo hi=some ku/\∀ b,hpX b=none->b≠env.locals->Q (.ref b) (hpX.set b (.list (pick xs kl ku)))) :
  EV (model PW W0) A E B env (.Subscript value (.Slice lower upper none p) pos) m hp Q:=λs r=>by
 refine Zeh (T := "list") list_getitem_lookup (h.use r λu s₁ o hp₁ r₁ le₁ hu h₁=>wpAny_Slice (h₁.use r₁ λvl sV lo hp₂ rV leV hl hV=>hV.use rV λvu sX hi hpX rX leX hh hX=>?_));refine hide λ_ Z=>?_;refine aQ hX λa xs kl ku V hls hsz pl pu q=>?_;clear hX;subst V;simp only[VR]at hu;subst hu;refine aa (rX.lst hls) λvs hlst hvs=>?_;apply Z;clear Z;have e:vs.size=xs.length:=by refine Array.length_toList▸?_;exact hvs.length
 dsimp only[evalPart_none];refine wP ⟨(hlst.push _).typeIs,wpAny_getItem_list_slice (hlst.push _) (Heap.IsSliceOf.new ..) ((hl.mono leX).part pl) (hh.part pu) .none (by nofun) ?_ (by rw[e];exact hsz)⟩;have rj:=rX.push { cls:=.type "slice",data:=.fields #[vl,vu,.none] };have lej:ImmLe sX.heap (sX.heap.push { cls:=.type "slice",data:=.fields #[vl,vu,.none] }):=ImmLe.keep λb o'' e=>Heap.get?_push_of_some _ e;have n:=Rel.newAt rj { cls:=.type "list",data:=.seq (slicePick vs kl ku none) } (.list (pick xs kl ku)) ⟨_,0,IsL.new _ _,Zi9 (hvs.mono (lej.trans (ImmLe.keep λb o'' e=>Heap.get?_push_of_some _ e))) kl ku⟩;exact mkV (av:=.ref _) n.1 (((le₁.trans leV).trans leX).trans (lej.trans n.2.2.2)) VR_ref (q _ n.2.1 n.2.2.1)
end
section
variable {A:Around}{E:ET}{B:Shared}{K:Frag}
theorem Zkn {f:Addr}{fd:FuncData}{body:List Stmt}{vs:List Value}{us:List (PySem.Str × Value)}{bs:List (PySem.Str × AV)} (G:Gnd K B) (hg:B.gens = #[]) (ho:K.lookup f=some ⟨.type "function",none,.func fd,#[]⟩) (hcd:codeIn K fd.code fd.qualname=true)
  (hbody:fd.body = .stmts body) (hroom:A.depth < recursionLimit) (hclo:fd.closure=[])
  (hb:bindArgs fd ⟨vs,[]⟩=pure us) (e1:us.map (·.1)=bs.map (·.1)) (e2:VRs B.heap (bs.map (·.2)) (us.map (·.2)))
  (hkind:∀ L,∀ x ∈ bs,fd.scope.names.lookup x.1=some .local\/(fd.scope.names.lookup x.1=some .cell/\((cellsFrom (L + 1) fd.scope.names []).lookup x.1).isSome=true))
  (h:∀ L,EXs (model PW W0) (A.deeper (callEnvC fd L f)) (λ_ _=>False) B (callEnvC fd L f) body (Zff (callEnvC fd L f).kindOf bs λ_=>none) (putCells (λ_=>none) (cellsFrom (L + 1) fd.scope.names []) (Zfg (callEnvC fd L f).kindOf bs λ_=>none)) (λfl _ _=>fl = .ret (.bool true)))
  (hnd:∀ L,∀ n c,(n,c) ∈ cellsFrom (L + 1) fd.scope.names []->(cellsFrom (L + 1) fd.scope.names []).lookup n=some c)
  (hco:fd.scope.isCoroutine=false:=by rfl) (hgen:fd.scope.isGenerator=false:=by rfl) (hk:fd.scope.kind = .function:=by rfl) :
  wpAny (model PW W0) A (call (.ref f) vs) (λv s'=>v = .bool true/\OldK B.heap s'.heap/\s'.os=B.os/\AllBare s'.gens) (λ_ _=>False) B:=by
 refine wpAny_call ?_;have hkd:∀ x ∈ us,fd.scope.names.lookup x.1=some .local\/(fd.scope.names.lookup x.1=some .cell/\((cellsFrom (B.heap.objs.size + 1) fd.scope.names []).lookup x.1).isSome=true):=λx hx=>by
  have:x.1 ∈ bs.map (·.1):=by refine e1▸?_;exact List.mem_map_of_mem hx
  refine aa (List.mem_map.mp this) λy hy e=>?_;refine e▸?_;exact hkind _ y hy
 refine codeAny_call_cells hroom (G.X _ _ ho) rfl G.lim (codeRec_of G.X hcd) hbody hb hclo hkd (λs₁ x=>?_) hco hgen hk;refine hide λ_ Z=>?_;obtain ⟨⟨⟨h₁,tk₁,rfl⟩,xns,xk,xf⟩,xc,xa,xab⟩:=x;apply Z;clear Z;have le:ImmLe B.heap h₁:=ImmLe.keep xk;generalize hLL:B.heap.objs.size=L at *;change h₁.Ns L _ at xns;have rel:Rel B ((putCells (λ_=>none) (cellsFrom (L + 1) fd.scope.names []) (Zfg (callEnvC fd L f).kindOf bs λ_=>none)).set (callEnvC fd L f).locals (.ns (Zff (callEnvC fd L f).kindOf bs λ_=>none))) { B with heap:=h₁,toks:=tk₁ }:=by
  refine ⟨λb o e=>xk _ _ e,λa o e=>?_,rfl,⟨by show AllBare B.gens;rw[hg];exact λy hy=>by (nomatch hy),.refl _⟩,?_⟩
  .by_cases ha:a=L
   .subst ha;rw[show (callEnvC fd a f).locals=a from rfl,Hp.ss]at e;cases e;exact ⟨Nat.le_of_eq hLL,_,xns,Zml e1 (e2.mono le) ⟨λx v e=>(by cases e),λx _=>rfl⟩⟩
   .rw [show (callEnvC fd L f).locals=L from rfl,Hp.sn _ _ ha]at e;unfold putCells at e;cases hf:(cellsFrom (L + 1) fd.scope.names []).find? (λx=>decide (x.2=a)) with
    | some x=>
     rw[hf]at e;cases e;have hmem:=List.mem_of_find?_eq_some hf;have hxa:x.2=a:=by have:=List.find?_some hf;simpa using this
     refine aa (xc x.1 a (by have:=hnd L x.1 x.2 hmem;rw[hxa]at this;exact this)) λo' ho' hd'=>?_;have hlt:L < x.2:=xab x.1 x.2 hmem;refine ⟨by refine hxa▸hLL▸?_;exact Nat.le_of_lt hlt,o',_,ho',hd',?_⟩;have hC:=Zmm (k:=(callEnvC fd L f).kindOf) (h:=h₁) e1 (e2.mono le) (m:=λ_=>none) (mv:=λ_=>none) ⟨λx v e=>(by cases e),λx _=>rfl⟩;cases hcm:Zfg (callEnvC fd L f).kindOf bs (λ_=>none) x.1 with
     | none=>exact hC.2 x.1 hcm
     | some v=>refine aa (hC.1 x.1 v hcm) λu hu hvu=>?_;exact ⟨u,hu,hvu⟩
    | none=>
     rw[hf]at e;cases e
  .rw [hLL];exact Nat.le_of_lt xns.lt
 refine wpAny_mono (h L _ rel) (λfl s' x=>?_) λ_ _ x=>x.elim;refine hide λ_ Z=>?_;refine aw x λaf m' hp' r' le' hf e=>?_;subst e;obtain ⟨u,rfl,hu⟩:=hf;apply Z;clear Z;simp only[VR]at hu;subst hu;exact ⟨rfl,OldK.of_keep r'.keep,r'.os,r'.bare.1⟩
theorem Zh7 {h:Heap}{vs:List Value}{ns:List Int} (x:IntsAre vs ns):VRs h (ns.map .int) vs:=by
 induction x with
 | nil=>rfl
 | cons n t _ ih=>simp only[List.map_cons,VRs];exact ⟨_,_,rfl,VR_int,ih⟩
end
noncomputable def KS (lt:Nat->Nat->Bool) (n:Nat) {α:Type} (Q : α->Prop):KasT α->Prop
 | .ret a=>Q a
 | .ask i j k=>i < n/\j < n/\KS lt n Q (k (lt i j))
section
variable {lt:Nat->Nat->Bool}{n:Nat}
theorem KS.bind {α β:Type}{f : α->KasT β}{Q : β->Prop}:∀ {t:KasT α},KS lt n (λa=>KS lt n Q (f a)) t->KS lt n Q (t.bind f)
 | .ret _,h=>h
 | .ask _ _ _,h=>⟨h.1,h.2.1,KS.bind h.2.2⟩
theorem KS.mono {α:Type}{Q Q' : α->Prop} (hq:∀ a,Q a->Q' a):∀ {t:KasT α},KS lt n Q t->KS lt n Q' t
 | .ret _,h=>hq _ h
 | .ask _ _ _,h=>⟨h.1,h.2.1,KS.mono hq h.2.2⟩
theorem KS.wp {α:Type}{cmp:Nat->Nat->(Bool->Shared->Prop)->Shared->Prop}{Q : α->Prop}{P : α->Shared->Prop}{s:Shared} (hc:∀ i j C,i < n->j < n->C (lt i j) s->cmp i j C s) (hq:∀ a,Q a->P a s):∀ {t:KasT α},KS lt n Q t->t.kasWp cmp P s
 | .ret _,h=>hq _ h
 | .ask _ _ _,h=>hc _ _ _ h.1 h.2.1 (KS.wp hc hq h.2.2)
structure PM (n:Nat) (p:Array Nat):Prop where
 sz:p.size=n
 pm:p.toList.Perm (List.range n)
theorem PM.of {p q:Array Nat} (h:PM n p) (e:q.Perm p):PM n q:=⟨e.size_eq.trans h.sz,(Array.perm_iff_toList_perm.mp e).trans h.pm⟩
theorem PM.get {p:Array Nat} (h:PM n p) {i:Nat} (hi:i < n):p[i]?=some (p.getD i 0):=by have:=h.sz;simp[Array.getD,this,hi]
theorem PM.below {p:Array Nat} (h:PM n p) {i:Nat} (hi:i < n):p.getD i 0 < n:=by
 have e:=h.get hi;have hm:p.getD i 0 ∈ p.toList:=by rw[<-Array.getElem?_toList]at e;exact List.mem_of_getElem? e
 exact List.mem_range.mp (h.pm.mem_iff.mp hm)
theorem PM.inj {p:Array Nat} (h:PM n p) {i j:Nat} (hi:i < n) (hj:j < n) (e:p.getD i 0=p.getD j 0):i=j:=by
 have nd:p.toList.Nodup:=h.pm.nodup_iff.mpr List.nodup_range;have a:=h.get hi;have b:=h.get hj;rw[<-Array.getElem?_toList]at a b;rw[e,<-b]at a;have hl:i < p.toList.length:=by rw[Array.length_toList,h.sz];exact hi
 exact (List.getElem?_inj hl nd).mp a
structure TO (lt:Nat->Nat->Bool) (n:Nat):Prop where
 tot:∀ i j,i < n->j < n->i≠j->lt i j=false->lt j i=true
 trans:∀ i j k,i < n->j < n->k < n->lt i j=true->lt j k=true->lt i k=true
noncomputable def UpTo (lt:Nat->Nat->Bool) (p:Array Nat) (k:Nat):Prop:=∀ i j,i < j->j < k->lt (p.getD i 0) (p.getD j 0)=true
theorem UpTo.snoc (T:TO lt n) {p:Array Nat} (P:PM n p) {k:Nat} (h:UpTo lt p k) (hk:k < n) (h1 : 0 < k) (h2:lt (p.getD (k - 1) 0) (p.getD k 0)=true):UpTo lt p (k + 1):=λi j hij hj=>by
 by_cases e:j=k
 .subst e;by_cases e2:i=j - 1
  .subst e2;exact h2
  .exact T.trans _ _ _ (P.below (by (exact Nat.lt_trans ‹_› ‹_›))) (P.below (by (exact Nat.sub_lt_of_lt ‹_›))) (P.below hk) (h i (j - 1) (by (exact F20 0x784984078620680a 0x110110100 rfl e2 hij)) (by (exact Zb5 ‹_›))) h2
 .exact h i j hij (by (exact F20 0x87468074087620 0x11101 rfl e hj))
theorem Zmn (T:TO lt n) {p:Array Nat} (P:PM n p):∀ f k,1<=k->k + f=n->UpTo lt p k->KS lt n (λm=>k<=m/\m<=n/\UpTo lt p m/\(m < n->lt (p.getD m 0) (p.getD (m - 1) 0)=true)) (kas_asc p f k)
 | 0,k,h1,hk,h=>⟨Nat.le_refl _,by (exact F20 0x8758047060 0x101 rfl hk),h,λh=>by lia⟩
 | f + 1,k,h1,hk,h=>by
  refine ⟨P.below (by (exact F30 0x97496807060 0x101 rfl hk)),P.below (by (exact F30 0xa74a6908060670a 0x10110 rfl hk)),?_⟩;cases e:lt (p.getD k 0) (p.getD (k - 1) 0) with
  | true=>exact ⟨Nat.le_refl _,by (exact F30 0x97596807060 0x101 rfl hk),h,λ_=>e⟩
  | false=>
   dsimp only;rw[if_neg Bool.false_ne_true];have h2:=T.tot _ _ (P.below (i:=k) (by lia)) (P.below (i:=k - 1) (by lia)) (λe'=>by have:=P.inj (by lia) (by lia) e';(exact F10 0x378608650671a 0x110101010 rfl h1 this)) e;exact (Zmn T P f (k + 1) (by (exact Nat.succ_pos _)) (by (exact F30 0x986700696807060 0x101110 rfl hk)) (h.snoc T P (by lia) ‹_› h2)).mono λm ⟨a,b,c,d⟩=>⟨by (exact Nat.le_of_lt ‹_›),b,c,d⟩
noncomputable def DownTo (lt:Nat->Nat->Bool) (p:Array Nat) (k:Nat):Prop:=∀ i j,i < j->j < k->lt (p.getD j 0) (p.getD i 0)=true
theorem DownTo.snoc (T:TO lt n) {p:Array Nat} (P:PM n p) {k:Nat} (h:DownTo lt p k) (hk:k < n) (h1 : 0 < k) (h2:lt (p.getD k 0) (p.getD (k - 1) 0)=true):DownTo lt p (k + 1):=λi j hij hj=>by
 by_cases e:j=k
 .subst e;by_cases e2:i=j - 1
  .subst e2;exact h2
  .exact T.trans _ _ _ (P.below hk) (P.below (by (exact Nat.sub_lt_of_lt ‹_›))) (P.below (by (exact Nat.lt_trans ‹_› ‹_›))) h2 (h i (j - 1) (by lia) (by (exact Zb5 ‹_›)))
 .exact h i j hij (by lia)
theorem Zra (T:TO lt n) {p:Array Nat} (P:PM n p):∀ f k,1<=k->k + f=n->DownTo lt p k->KS lt n (λr=>∃ m,r=(p,m,0)/\k<=m/\m<=n/\DownTo lt p m) (kas_desc f p k 0):=by
 intro r_
 induction r_ with
 | zero=>
  intro k h1 hk h;exact ⟨k,rfl,Nat.le_refl _,by lia,h⟩
 | succ f ih=>
  intro k h1 hk h;refine ⟨P.below (by lia),P.below (by lia),?_⟩;cases e:lt (p.getD k 0) (p.getD (k - 1) 0) with
  | true=>
   dsimp only;rw[if_pos rfl,if_neg (by decide)];exact (ih (k + 1) (by (exact Nat.succ_pos _)) (by lia) (h.snoc T P (by lia) ‹_› e)).mono λr ⟨m,a,b,c,d⟩=>⟨m,a,by (exact Nat.le_of_lt ‹_›),c,d⟩
  | false=>
   dsimp only;rw[if_neg Bool.false_ne_true];have h2:=T.tot _ _ (P.below (i:=k) (by lia)) (P.below (i:=k - 1) (by lia)) (λe'=>by have:=P.inj (by lia) (by lia) e';lia) e;refine ⟨P.below (by lia),P.below (by lia),?_⟩;rw[h2];dsimp only;rw[if_pos rfl];exact ⟨k,rfl,Nat.le_refl _,by lia,h⟩
theorem Zsa {p:Array Nat} (P:PM n p) {k:Nat} (hk:k<=n) (h:DownTo lt p k):UpTo lt (kas_rev p 0 k) k:=λi j hij hj=>by
 have g:∀ i,i < k->(kas_rev p 0 k).getD i 0=p.getD (k - 1 - i) 0:=λi hi=>by have e:=getElem?_mirror_all (xs:=p) (i:=0) (j:=k) (by rw[P.sz];exact hk) i;rw[if_pos ⟨Nat.zero_le _,hi⟩]at e;unfold kas_rev;simp only[Array.getD_eq_getD_getElem?];rw[e];congr 2;lia
 rw[g i (by (exact Nat.lt_trans ‹_› ‹_›)),g j (by omega)];exact h _ _ (by (exact F30 0x784cb40ba40980a971a690a 0x111010101101011000 rfl hij hj)) (by (exact F30 0xb74ba40a940870a691a 0x11110011001010 rfl hij hj))
theorem Znn (T:TO lt n) {p:Array Nat} (P:PM n p) {k:Nat} (h1 : 1<=k) (hk:k<=n) (h:DownTo lt p k):KS lt n (λr=>PM n r.2/\1<=r.1/\r.1<=n/\UpTo lt r.2 r.1) (kas_tail3 k n p):=by unfold kas_tail3;have P':PM n (kas_rev p 0 k):=P.of (mirror_perm _ _ _ _);exact KS.bind ((Zmn T P' (n - k) k h1 (by (exact F20 0x978069850781a 0x1101101010101001 rfl hk)) (Zsa P hk h)).mono λm ⟨a,b,c,_⟩=>⟨P',by show 1<=m;(exact Nat.lt_of_lt_of_le ‹_› ‹_›),b,c⟩)
theorem Zo0 (T:TO lt n) {p:Array Nat} (P:PM n p) (h2 : 2<=n):KS lt n (λr=>PM n r.2/\1<=r.1/\r.1<=n/\UpTo lt r.2 r.1) (kas_count n p):=by
 unfold kas_count;refine KS.bind ((Zmn T P (n - 1) 1 (Nat.le_refl _) (by (exact F10 0x8760682450671a 0x110011010101001 rfl h2)) (λi j a b=>by lia)).mono λm yq=>?_);refine hide λ_ Z=>?_;refine ak yq λa b c d=>?_;apply Z;clear Z;by_cases e:m=n
 .subst e;rw[if_pos (by simp)];exact ⟨P,a,Nat.le_refl _,c⟩
 .rw [if_neg (by simpa using e)];by_cases e1:m > 1
  .rw [if_pos e1];refine ⟨P.below (by (exact Nat.lt_of_succ_lt ‹_›)),P.below (by (exact F20 0x974985098620670a 0x110010110 rfl e b)),?_⟩;rw[c 0 (m - 1) (by (exact F10 0x70448640670a 0x1101 rfl e1)) (by (exact Zb5 ‹_›))];dsimp only;rw[if_pos rfl];exact ⟨P,a,b,c⟩
  .rw [if_neg e1];have em:m=1:=by (exact F10 0x676764207650 0x110101 rfl a e1)
   subst em;unfold kas_descPart;refine KS.bind ((Zra T P (n - 2) 2 (by (exact Nat.le_succ _)) (by (exact F10 0x872406824502471a 0x1101101010101001 rfl h2)) (λi j hij hj=>?_)).mono λr ⟨k,hr,k1,k2,k3⟩=>?_)
   .have:=d ‹_›;have e:i=0/\j=1:=by lia
    rw[e.1,e.2];exact this
   .subst hr;rw[if_neg (Nat.lt_irrefl 0)];exact Znn T P (k:=k) (by (exact Nat.le_of_lt ‹_›)) k2 k3
theorem Zn2 (T:TO lt n) {p:Array Nat} (P:PM n p) {k:Nat} (hk:k < n) (hu:UpTo lt p k):∀ f l r,l<=r->r<=k->r - l<=f->(∀ i,i < l->lt (p.getD i 0) (p.getD k 0)=true)->(∀ i,r<=i->i < k->lt (p.getD k 0) (p.getD i 0)=true) ->
  KS lt n (λm=>m<=k/\(∀ i,i < m->lt (p.getD i 0) (p.getD k 0)=true)/\(∀ i,m<=i->i < k->lt (p.getD k 0) (p.getD i 0)=true)) (kas_place p k f l r):=by
 intro r_
 induction r_ with
 | zero=>
  intro l r h1 h2 h3 h4 h5;have:l=r:=by (exact F20 0x986047509850780a 0x1010011001 rfl h1 h3)
  subst this;exact ⟨h2,h4,h5⟩
 | succ f ih=>
  intro l r h1 h2 h3 h4 h5;dsimp only[kas_place];by_cases hl:l>=r
  .rw [if_pos hl];have:l=r:=by (exact Nat.le_antisymm ‹_› ‹_›)
   subst this;exact ⟨h2,h4,h5⟩
  .rw [if_neg hl];refine ⟨P.below hk,P.below (by (exact F40 0x974ba5208a5098409a022a 0x212210 rfl hk h2 hl)),?_⟩;cases e:lt (p.getD k 0) (p.getD ((l + r) / 2) 0) with
   | true=>
    dsimp only;rw[if_pos rfl];refine ih l _ (by (exact F20 0x7959852078022a 0x4201 rfl hl)) (by (exact F30 0x975a8520985079022a 0x21210 rfl h2 hl)) (by (exact F30 0xa85cb5206a0750ba0aa71a89022a 0x100000100212022010 rfl h3 hl)) h4 λi hi hik=>?_;by_cases e2:i=(l + r) / 2
    .subst e2;exact e
    .exact T.trans _ _ _ (P.below hk) (P.below (by lia)) (P.below (by (exact Nat.lt_trans ‹_› ‹_›))) e (hu _ _ (by (exact F20 0x784785087620 0x101011 rfl e2 hi)) hik)
   | false=>
    dsimp only;rw[if_neg Bool.false_ne_true];have h6:=T.tot _ _ (P.below hk) (P.below (i:=(l + r) / 2) (by lia)) (λe'=>by have:=P.inj hk (by lia) e';(exact F30 0x37960a8520985079022a 0x21210 rfl h2 hl this)) e;refine ih _ r (by (exact F20 0x867059852078022a 0x2110 rfl hl)) h2 (by (exact F30 0xa856a0750ab0a670a1a98022a 0x1000010042024001 rfl h3)) (λi hi=>?_) h5;by_cases e2:i=(l + r) / 2
    .subst e2;exact h6
    .exact T.trans _ _ _ (P.below (by (exact fk [_,_,_,_,_] [] 0x9c4670c40ba5208a5098409a022a 0x2212210 rfl hk h2 hl hi))) (P.below (by lia)) (P.below hk) (hu _ _ (by (exact F20 0x87468074087620 0x11101 rfl e2 hi)) (by (exact F30 0x974a8520985079022a 0x21210 rfl h2 hl))) h6
theorem Ztk (T:TO lt n):∀ f (p:Array Nat) k,k + f=n->PM n p->UpTo lt p k->KS lt n (λq=>PM n q/\UpTo lt q n) (kas_bin f p k):=by
 intro r_
 induction r_ with
 | zero=>
  intro p k hk P h;have:k=n:=by omega
  subst this;exact ⟨P,h⟩
 | succ f ih=>
  intro p k hk P h;dsimp only[kas_bin];have hkn:k < n:=by lia
  refine KS.bind ((Zn2 T P hkn h k 0 k (Nat.zero_le _) (Nat.le_refl _) (by (exact Nat.sub_le ..)) (λi hi=>by lia) (λi a b=>by lia)).mono λm yq=>?_);refine au yq λa b c=>?_;refine ih _ (k + 1) (by lia) (P.of (bubble_perm _ _ _)) λi j hij hj=>?_;have g:∀ i,i<=k->(bubble p k (k - m)).getD i 0=if i=m then p.getD k 0 else if m < i then p.getD (i - 1) 0 else p.getD i 0:=λi hi=>by
   have e:=getElem?_bubble (xs:=p) (src:=k) (by rw[P.sz];exact hkn) (k - m) (by (exact Nat.sub_le ..)) i;simp only[Array.getD_eq_getD_getElem?];rw[e,show k - (k - m)=m from by (exact F20 0x976a950791a781a 0x100100111001101010110101100100101010101001100110 rfl a)];by_cases e1:i=m
   .rw [if_pos e1,if_pos e1]
   .rw [if_neg e1,if_neg e1];by_cases e2:m < i
    .rw [if_pos ⟨e2,hi⟩,if_pos e2]
    .rw [if_neg (λh=>e2 h.1),if_neg e2]
  rw[g i (by (exact F30 0x9756908408740 0x111 rfl hij hj)),g j (by (exact Nat.le_of_lt_succ ‹_›))];by_cases e1:i=m
  .rw [if_pos e1,if_neg (by (exact F30 0x986297608740 0x1101 rfl hij e1)),if_pos (by (exact F30 0x89497608740 0x1101 rfl hij e1))];exact c _ (by (exact F30 0x7a5a8609840680a 0x110101 rfl hij e1)) (by (exact F40 0xa74b8606a09409840681a 0x11011011001010 rfl hij hj e1))
  .rw [if_neg e1];by_cases e2:j=m
   .rw [if_pos e2,if_neg (by (exact F30 0x794298608740 0x1011 rfl hij e2))];exact b _ (by (exact F30 0x97498608740 0x1011 rfl hij e2))
   .rw [if_neg e2];by_cases e3:m < i
    .rw [if_pos e3,if_pos (by (exact Nat.lt_trans ‹_› ‹_›))];exact h _ _ (by (exact F30 0x7849b40a940690a671a 0x11101011010110 rfl hij e3)) (by (exact F40 0xa748b406a09409840681a 0x10110101010 rfl hij hj e3))
    .rw [if_neg e3];by_cases e4:m < j
     .rw [if_pos e4];exact h _ _ (by (exact F30 0x784a9408942098620690a 0x1100110101 rfl e1 e3 e4)) (by (exact F30 0x9748a40690840671a 0x1110110110 rfl hj e4))
     .rw [if_neg e4];exact h _ _ (by omega) (by (exact F30 0x97478420985087620 0x1011011 rfl e2 a e4))
theorem Zql (T:TO lt n) (h2 : 2<=n):KS lt n (λq=>PM n q/\UpTo lt q n) (kas_sort n):=by
 unfold kas_sort;have P0:PM n (List.toArray (List.range n)):=⟨by simp,by rfl⟩;refine KS.bind ((Zo0 T P0 h2).mono λr yq=>?_);refine hide λ_ Z=>?_;refine ak yq λa b c d=>?_;apply Z;clear Z;by_cases e:r.1 < n
 .rw [if_pos e,show max r.1 1=r.1 from by lia];exact Ztk T _ _ _ (by (exact F20 0x978069840781a 0x110011010101001 rfl e)) a d
 .rw [if_neg e];have:r.1=n:=by (exact F20 0x876874208750 0x101110 rfl c e)
  exact ⟨a,by rw[this]at d;exact d⟩
end
noncomputable def lexB (x y:Int × Int × Int):Bool:=if x.1=y.1 then (if x.2.1=y.2.1 then decide (x.2.2 < y.2.2) else decide (x.2.1 < y.2.1)) else decide (x.1 < y.1)
noncomputable def triV (x:Int × Int × Int):AV:=.mat [.int x.1,.int x.2.1,.int x.2.2]
theorem Zdv {x y:Int × Int × Int} (h:lexB x y=false) (hn:x≠y):lexB y x=true:=by
 obtain ⟨a,b,c⟩:=x;obtain ⟨d,e,f⟩:=y;unfold lexB at *;dsimp only at *;by_cases h1:a=d
 .subst h1;rw[if_pos rfl]at h ⊢;by_cases h2:b=e
  .subst h2;rw[if_pos rfl]at h ⊢;have:c≠f:=λe=>hn (by rw[e]);simp only[decide_eq_false_iff_not]at h;simp only[decide_eq_true_eq];(exact F02 0x7878772087920 0x101011 rfl this h)
  .rw [if_neg h2]at h;rw[if_neg (Ne.symm h2)];simp only[decide_eq_false_iff_not]at h;simp only[decide_eq_true_eq];(exact F02 0x7878772087920 0x101011 rfl h2 h)
 .rw [if_neg h1]at h;rw[if_neg (Ne.symm h1)];simp only[decide_eq_false_iff_not]at h;simp only[decide_eq_true_eq];lia
theorem Ziy {x y:Int × Int × Int}:lexB x y=true ↔ x.1 < y.1\/(x.1=y.1/\(x.2.1 < y.2.1\/(x.2.1=y.2.1/\x.2.2 < y.2.2))):=by
 unfold lexB;by_cases h:x.1=y.1
 .rw [if_pos h];by_cases h2:x.2.1=y.2.1
  .rw [if_pos h2,decide_eq_true_eq];refine ⟨λq=>.inr ⟨h,.inr ⟨h2,q⟩⟩,λq=>?_⟩;rcases q with q | ⟨_,q | ⟨_,q⟩⟩
   .exact absurd h (Int.ne_of_lt q)
   .exact absurd h2 (Int.ne_of_lt q)
   .exact q
  .rw [if_neg h2,decide_eq_true_eq];refine ⟨λq=>.inr ⟨h,.inl q⟩,λq=>?_⟩;rcases q with q | ⟨_,q | ⟨e,_⟩⟩
   .exact absurd h (Int.ne_of_lt q)
   .exact q
   .exact absurd e h2
 .rw [if_neg h,decide_eq_true_eq];exact ⟨.inl,λq=>q.elim (λq=>q) λq=>absurd q.1 h⟩
theorem Zc4 {x y z:Int × Int × Int} (h1:lexB x y=true) (h2:lexB y z=true):lexB x z=true:=by rw[Ziy]at *;exact Zk7 h1 h2
theorem Zex (x:Int × Int × Int):lexB x x=false:=by
 cases h:lexB x x with
 | false=>rfl
 | true=>rw[Ziy]at h;exact (h.elim (Int.lt_irrefl _) λh=>h.2.elim (Int.lt_irrefl _) λh=>Int.lt_irrefl _ h.2:False).elim
theorem Zok {xs ys:List (Int × Int × Int)} (p:xs.Perm ys) (h1:xs.Pairwise (λa b=>lexB a b=true)) (h2:ys.Pairwise (λa b=>lexB a b=true)):xs=ys:=
 p.eq_of_pairwise (λa b _ _ h1 h2=>by have:=Zc4 h1 h2;rw[Zex]at this;cases this) h1 h2
theorem Zfo (a b:Value):Builtin.«tuple.__lt__» ⟨[a,b],[]⟩=(do
  if !(<-isInstance b (.type "tuple")) then return <-ret .notImplemented
  let xs <-Builtin.Tuple.tupleItemsOf a;let ys <-Builtin.Tuple.tupleItemsOf b
  for (x,y) in xs.toList.zip ys.toList do
   if !(<-eqBool x y) then
    rule "tuple.compare.by-the-first-pair-that-differs";return <-ret (<-richCompare .Lt x y)
  ret (Builtin.Tuple.tupleCompareSizes .Lt xs.size ys.size)):=rfl
theorem Zqh:builtinKind "tuple.__lt__" = some .slot:=by decide +kernel
theorem Znl:splitId "tuple.__lt__" = some ("tuple", "__lt__"):=by decide +kernel
section
variable {A:Around}{E:ET}{s:Shared}{K:Frag}
noncomputable def IsTri (h:Heap) (a:Addr) (x:Int × Int × Int):Prop:=∃ t u v,IsMat h a #[.int x.1 t,.int x.2.1 u,.int x.2.2 v]
theorem Zez {a:Addr}{vs:Array Value}{Q:Array Value->Shared->Prop} (h:IsMat s.heap a vs) (q:Q vs s):wpAny (model PW W0) A (Builtin.Tuple.tupleItemsOf (.ref a)) Q E s:=by refine hide λ_ Z=>?_;obtain ⟨o,ho,_,n,hd⟩:=h;apply Z;clear Z;unfold Builtin.Tuple.tupleItemsOf;exact wB (wpAny_seqItems ho hd (wP q))
theorem Zqi {a b:Addr}{x y:Int × Int × Int}{P:PySem.Fin->Shared->Prop} (hi:Looks (model PW W0) s.heap (isInstance (.ref b) (.type "tuple")) true) (ha:IsTri s.heap a x) (hb:IsTri s.heap b y)
  (h:P (.done (.ret (.bool (lexB x y)))) s):wpAny (model PW W0) A (Builtin.«tuple.__lt__» ⟨[.ref a,.ref b],[]⟩) P E s:=by
 refine hide λ_ Z=>?_;obtain ⟨t1,t2,t3,ha⟩:=ha;obtain ⟨u1,u2,u3,hb⟩:=hb;apply Z;clear Z;rw[Zfo];refine wB (hi.here ?_);simp only[Bool.not_true,Bool.false_eq_true,if_false];refine wB (Zez ha (wB (Zez hb ?_)));have hz:(#[Value.int x.1 t1,.int x.2.1 t2,.int x.2.2 t3]:Array Value).toList.zip (#[Value.int y.1 u1,.int y.2.1 u2,.int y.2.2 u3]:Array Value).toList=[(.int x.1 t1,.int y.1 u1),(.int x.2.1 t2,.int y.2.1 u2),(.int x.2.2 t3,.int y.2.2 u3)]:=rfl;refine hz▸?_;simp only[List.forIn_cons,List.forIn_nil];unfold lexB at h;refine wB (wB (wB (wpAny_eqBool_int ?_)));by_cases h1:x.1=y.1
 .replace h:=(if_pos h1)▸h;rw[show (x.1 == y.1)=true from beq_iff_eq.mpr h1];simp only[Bool.not_true,Bool.false_eq_true,if_false];refine wP ?_;dsimp only;refine wB (wB (wpAny_eqBool_int ?_));by_cases h2:x.2.1=y.2.1
  .replace h:=(if_pos h2)▸h;rw[show (x.2.1 == y.2.1)=true from beq_iff_eq.mpr h2];simp only[Bool.not_true,Bool.false_eq_true,if_false];refine wP ?_;dsimp only;refine wB (wB (wpAny_eqBool_int ?_));by_cases h3:x.2.2=y.2.2
   .refine (show (x.2.2 == y.2.2)=true from beq_iff_eq.mpr h3).symm▸?_;simp only[Bool.not_true,Bool.false_eq_true,if_false];refine wP ?_;dsimp only;refine wP ?_;dsimp only;have e:decide (x.2.2 < y.2.2)=false:=by refine decide_eq_false_iff_not.2 ?_;(exact F02 0x87728790 0x110 rfl h3)
    replace h:=e▸h;exact wP h
   .refine (show (x.2.2 == y.2.2)=false from beq_eq_false_iff_ne.mpr h3)▸?_;simp only[Bool.not_false,if_true];refine wB (wpAny_rule (wB (lt_int (wB (wP (wP (wP (wP h))))))))
  .replace h:=(if_neg h2)▸h;refine (show (x.2.1 == y.2.1)=false from beq_eq_false_iff_ne.mpr h2)▸?_;simp only[Bool.not_false,if_true];refine wB (wpAny_rule (wB (lt_int (wB (wP (wP (wP (wP h))))))))
 .replace h:=(if_neg h1)▸h;refine (show (x.1 == y.1)=false from beq_eq_false_iff_ne.mpr h1)▸?_;simp only[Bool.not_false,if_true];refine wB (wpAny_rule (wB (lt_int (wB (wP (wP (wP (wP h))))))))
theorem Zsm {a b:Addr}{x y:Int × Int × Int}{Q:Bool->Shared->Prop} (hu:A.units < cLine) (X:K.In s.heap) (hf:findIn K (.ref 135) "__lt__" = some (some (.builtin "tuple.__lt__"))) (hm:mroIn K 135 (.type "tuple")=some true) (ha:IsTri s.heap a x) (hb:IsTri s.heap b y)
  (h:Q (lexB x y) s):wpAny (model PW W0) A (keyLt' oneType' (.ref a) (.ref b)) Q E s:=by
 have ty:∀ {c:Addr}{z:Int × Int × Int},IsTri s.heap c z->Looks (model PW W0) s.heap (typeOf (.ref c)) (.ref 135):=λ{c z} hc=>by obtain ⟨_,_,_,o,ho,hc,_⟩:=hc;refine hc▸?_;exact (Looks.ld ho).andThen .now
 have t1:=ty ha;have t2:Looks (model PW W0) s.heap (isInstance (.ref a) (.type "tuple")) true:=t1.andThen (looks_mroIn X hm);have t4:Looks (model PW W0) s.heap (isInstance (.ref b) (.type "tuple")) true:=(ty hb).andThen (looks_mroIn X hm);have t3:=looks_findIn (M:=model PW W0) X hf;have go:∀ {W:ET},W (.bool (lexB x y)) s->wpAny (model PW W0) A (call (.builtin "tuple.__lt__") [.ref a,.ref b]) W E s:=λ{W} hW=>by refine wpAny_call (codeAny_call_builtin (F.slot_tuple_lt).plain F.entry_tuple_lt (check_slot Zqh Znl t2 (F.args_tuple_lt_2 _ _) ?_));exact Zqi t4 ha hb hW
 rw[keyLt'_oneType,oneLt'_eq];simp;refine wB (wpAny_cRoomFor hu ?_);refine wB ?_;simp only[callSpecialIfBound?,bindSpecialIfBound?,specialOf];refine wpAny_holding (wB (wB (wB (t1.here (t3.here ?_)))));dsimp only;refine (show bindSpecial (Value.builtin "tuple.__lt__") (.ref a)=pure (Value.builtin "tuple.__lt__",[.ref a]) from (F.slot_tuple_lt).bind _)▸?_;refine wB (wpAny_askSetting (wpAny_ite ?_));have fin:∀ {W:Option Value->Shared->Prop},W (some (.bool (lexB x y))) s->wpAny (model PW W0) A (call (.builtin "tuple.__lt__") ([.ref a] ++ [.ref b]) >>= λv=>pure (some v)) W E s:=λ{W} hW=>wB (go (wP hW));have last:wpAny (model PW W0) A (truthOfDropped (.bool (lexB x y))) Q E s:=wpAny_truthy_bool h;split
 .exact wB (wP (wP (fin last)))
 .exact wpAny_tryCatch (wB (wP (wP (fin last))))
end
noncomputable abbrev Tri:=Int × Int × Int
theorem Zlu {α:Type}{xs:List α}{i:Nat}{d : α} (h:i < xs.length):xs.getD i d=xs[i]:=by simp[List.getD,h]
theorem Zc6 {α:Type}{xs:List α}{i:Nat}{d : α} (h:i < xs.length):xs[i]?=some (xs.getD i d):=by simp[List.getD,h]
theorem IsTri.imm {h h':Heap} (le:ImmLe h h') {a:Addr}{x:Tri} (y:IsTri h a x):IsTri h' a x:=y.imp λ_=>.imp λ_=>.imp λ_=>.imm le
theorem Zr6 {h:Heap}{xs:List Tri}{vs:List Value} (hv:VRs h (xs.map triV) vs) {i:Nat}{x:Tri} (hi:xs[i]?=some x):∃ b,vs[i]?=some (.ref b)/\IsTri h b x:=by refine hide λ_ Z=>?_;refine aa (hv.get (i:=i) (x:=triV x) (by rw[List.getElem?_map,hi];rfl)) λv e hv=>?_;unfold triV at hv;simp only[VR]at hv;refine ad hv λb us V hm hu=>?_;clear hv;subst V;apply Z;clear Z;refine ⟨b,e,?_⟩;refine hide λ_ Z=>?_;simp only[VRs,VR]at hu;obtain ⟨v1,r1,e1,⟨t1,h1⟩,v2,r2,e2,⟨t2,h2⟩,v3,r3,e3,⟨t3,h3⟩,e4⟩:=hu;subst e4;subst h3;subst e3;subst h2;subst e2;subst h1;apply Z;clear Z;exact ⟨t1,t2,t3,by rw[show us = #[Value.int x.1 t1,.int x.2.1 t2,.int x.2.2 t3] from Array.toList_inj.mp e1]at hm;exact hm⟩
theorem Zfh {h:Heap}:∀ {xs:List AV}{vs:List Value},xs.length=vs.length->(∀ (i:Nat) x v,xs[i]?=some x->vs[i]?=some v->VR h x v)->VRs h xs vs
 | [],vs,hl,_=>by
  cases vs with
  | nil=>rfl
  | cons _ _=>nomatch hl
 | x :: xs,vs,hl,hg=>by
  cases vs with
  | nil=>nomatch hl
  | cons v vs=>
   simp only[VRs];exact ⟨v,vs,rfl,hg 0 x v rfl rfl,Zfh (by simpa using hl) λi y u hy hu=>hg (i + 1) y u (by simpa using hy) (by simpa using hu)⟩
section
variable {K:Frag}
theorem Zub {xs:List Tri} (nd:xs.Nodup):TO (λi j=>lexB (xs.getD i (0,0,0)) (xs.getD j (0,0,0))) xs.length where
 tot i j hi hj hn h:=Zdv h λe=>by rw[Zlu hi,Zlu hj]at e;exact hn ((List.getElem_inj nd).mp e)
 trans i j k _ _ _ h1 h2:=Zc4 h1 h2
theorem Zkj {α:Type}{M:Model}{A:Around}{x y:Sem α}{P : α->Shared->Prop}{E:ET}{s:Shared} (e:x=y) (h:wpAny M A y P E s):wpAny M A x P E s:=e ▸ h
theorem Zku {a:Addr}{xs:List Tri}{s:Shared}{P:PySem.Fin->Shared->Prop} (G:Gnd K B) (hf:findIn K (.ref 135) "__lt__" = some (some (.builtin "tuple.__lt__"))) (hm:mroIn K 135 (.type "tuple")=some true) (hu:A.units < cLine)
  (r:Rel B (hp.set env.locals (.ns m)) s) (ha:hp a=some (.list (xs.map triV))) (hL:a≠env.locals) (nd:xs.Nodup) (h64:xs.length < 64)
  (h:∀ (ys:List Tri) s',ys.Perm xs->ys.Pairwise (λa b=>lexB a b=true)->Rel B ((hp.set a (.list (ys.map triV))).set env.locals (.ns m)) s'->ImmLe s.heap s'.heap->P (.done (.ret .none)) s'):wpAny (model PW W0) A (Builtin.«list.sort» ⟨[.ref a],[]⟩) P E s:=by
 refine hide λ_ Z=>?_;refine am (r.at ha hL) λvs n hl hvs=>?_;have hsz:vs.size=xs.length:=by rw[<-Array.length_toList,hvs.length,List.length_map]
 have har:(hp.set env.locals (.ns m)) a=some (.list (xs.map triV)):=Hp.snt hL ha;obtain ⟨e1,ho1⟩:∃ e1,(s.heap.update a (Obj.mapSeq λ_=>(#[]:Array Value))).get? a=some (seqObj "list" #[] e1):=⟨_,get?_update_seq hl λ_=>#[]⟩;obtain ⟨r1,le1⟩:=r.turn har (h':=s.heap.update a (Obj.mapSeq λ_=>(#[]:Array Value))) (Heap.SameBut.update ..) (.list []) (λ_=>⟨#[],e1,ho1,by rfl⟩) s.toks;apply Z;clear Z;have r2:=(r1.push (seqObj "tuple" vs 0)).push (seqObj "list" #[] 0);have le2:ImmLe s.heap (((s.heap.update a (Obj.mapSeq λ_=>(#[]:Array Value))).push (seqObj "tuple" vs 0)).push (seqObj "list" #[] 0)):=le1.trans (ImmLe.keep λb o e=>Heap.get?_push_of_some _ (Heap.get?_push_of_some _ e));have ho2:(((s.heap.update a (Obj.mapSeq λ_=>(#[]:Array Value))).push (seqObj "tuple" vs 0)).push (seqObj "list" #[] 0)).get? a=some (seqObj "list" #[] e1):=Heap.get?_push_of_some _ (Heap.get?_push_of_some _ ho1);have fin:∀ (ps:List Nat) (hp':ps.Perm (List.range xs.length)),(ps.map λi=>xs.getD i (0,0,0)).Pairwise (λa b=>lexB a b=true) ->
   P (.done (.ret .none)) { s with heap:=(((s.heap.update a (Obj.mapSeq λ_=>(#[]:Array Value))).push (seqObj "tuple" vs 0)).push (seqObj "list" #[] 0)).update a (Obj.mapSeq λ_=>List.toArray (ps.map λi=>vs.toList.getD i Value.none)) }:=λps hp' hpw=>by
  obtain ⟨c2,hc2⟩:∃ c2,((((s.heap.update a (Obj.mapSeq λ_=>(#[]:Array Value))).push (seqObj "tuple" vs 0)).push (seqObj "list" #[] 0)).update a (Obj.mapSeq λ_=>List.toArray (ps.map λi=>vs.toList.getD i Value.none))).get? a=some (seqObj "list" (List.toArray (ps.map λi=>vs.toList.getD i Value.none)) c2):=⟨_,get?_update_seq ho2 λ_=>_⟩
  obtain ⟨r3,le3⟩:=r2.turn (Hp.ss ..) (h':=(((s.heap.update a (Obj.mapSeq λ_=>(#[]:Array Value))).push (seqObj "tuple" vs 0)).push (seqObj "list" #[] 0)).update a (Obj.mapSeq λ_=>List.toArray (ps.map λi=>vs.toList.getD i Value.none))) (Heap.SameBut.update ..) (.list ((ps.map λi=>xs.getD i (0,0,0)).map triV)) (λle=>⟨_,c2,hc2,by
   refine Zfh (by simp) λi x v hx hv=>?_;simp only[List.map_map,List.getElem?_map,Option.map_eq_some_iff,Function.comp]at hx hv;obtain ⟨k,hk,rfl⟩:=hx;obtain ⟨k',hk',rfl⟩:=hv;rw[hk]at hk';cases hk';have hkl:k < xs.length:=List.mem_range.mp (hp'.mem_iff.mp (List.mem_of_getElem? hk));refine aa (hvs.get (i:=k) (x:=triV (xs.getD k (0,0,0))) (by rw[List.getElem?_map,Zc6 (d:=(0,0,0)) hkl];rfl)) λv e hv=>?_;have:vs.toList.getD k Value.none=v:=by rw[List.getD_eq_getElem?_getD,e];rfl
   rw[this]
   exact hv.mono (le2.trans le)⟩) s.toks
  rw[Hp.set_set,Hp.sc _ _ _ (Ne.symm hL)]at r3;refine h _ _ ?_ hpw r3 (le2.trans le3);have:(List.range xs.length).map (λi=>xs.getD i (0,0,0))=xs:=by
   apply List.ext_getElem?;intro i;rw[List.getElem?_map];by_cases hi:i < xs.length
   .rw [List.getElem?_range hi];simp[hi]
   .rw [List.getElem?_eq_none (by simp;(exact Nat.le_of_not_lt ‹_›)),List.getElem?_eq_none (by (exact Nat.le_of_not_lt ‹_›))];rfl
  refine this▸?_;have:=hp'.map (λi=>xs.getD i (0,0,0));rw[‹(List.range xs.length).map (λi=>xs.getD i (0,0,0))=xs›]at this ⊢;exact this
 refine Zkj (list_sort_plain ..) ?_;refine wB (listItems_at hl rfl ?_);refine wB (listUpdate_at hl rfl ?_ (by rw[hsz,sizeLine_eq];lia) (Nat.zero_le _));refine wB (seqEpoch_at ho1 rfl ?_);refine wB (wpAny_newTuple ?_ (by rw[Array.length_toList,hsz,sizeLine_eq];lia));refine wB (wpAny_newList ?_ (Nat.zero_le _));refine wpAny_holding ?_;show wpAny (model PW W0) A _ P E { s with heap:=((s.heap.update a (Obj.mapSeq λ_=>(#[]:Array Value))).push (seqObj "tuple" vs.toList.toArray 0)).push (seqObj "list" #[] 0) };rw[show vs.toList.toArray=vs by rfl];dsimp only;by_cases h2:vs.size < 2
 .rw [if_pos h2,if_pos h2];refine wB (wP ?_);dsimp only[StateT.run_pure];refine wB (wP ?_);dsimp only;refine wB (seqEpoch_at ho2 rfl ?_);have e0:(arrOf (SortSt.mk' general' (vs.zip vs) #[] 7 none)).map (·.2)=List.toArray ((List.range xs.length).map λi=>vs.toList.getD i Value.none):=by
   apply Array.ext_getElem?;intro i;show ((vs.zip vs).map (·.2))[i]?=_;by_cases hi:i < vs.size
   .have hi':i < xs.length:=by (exact F30 0x89479408760 0x1101 rfl hsz hi)
    simp[hi,hi',List.getElem?_range]
   .have hi':¬ i < xs.length:=by (exact F30 0x8942794208760 0x1110 rfl hsz hi)
    simp[hi,hi']
  refine wB (listUpdate_at ho2 rfl ?_ (Nat.zero_le _) (by rw[e0];simp;rw[sizeLine_eq];lia));simp;refine e0▸?_;refine wP (fin _ (List.Perm.refl _) ?_)
  match xs,hsz with
  | [],_=>exact List.Pairwise.nil
  | [x],_=>exact List.pairwise_singleton _ _
  | x :: y :: r,hz=>simp at hz;lia
 .rw [if_neg h2,if_neg h2];have X2:=G.X.keeps r2.keep;have tri:∀ i,i < xs.length->∃ b,vs.toList.getD i Value.none = .ref b/\IsTri (((s.heap.update a (Obj.mapSeq λ_=>(#[]:Array Value))).push (seqObj "tuple" vs 0)).push (seqObj "list" #[] 0)) b (xs.getD i (0,0,0)):=λi hi=>by refine aa (Zr6 hvs (i:=i) (x:=xs.getD i (0,0,0)) (Zc6 hi)) λb e ht=>?_;exact ⟨b,by rw[List.getD_eq_getElem?_getD,e];rfl,ht.imm le2⟩
  refine wB ?_;refine (show vs=vs.toList.toArray by simp)▸?_;refine kas_kind (T:=.ref 135) (by dsimp only[Array.length_toList];(exact Nat.le_of_not_lt ‹_›)) (λv hv=>?_) rfl rfl ?_
  .refine hide λ_ Z=>?_;obtain ⟨i,hi⟩:=List.getElem?_of_mem hv;have hil:i < vs.size:=by
    rcases Nat.lt_or_ge i vs.size with h' | h'
    .exact h'
    .rw [List.getElem?_eq_none (by simpa using h')]at hi;cases hi
   refine aa (tri i (by (exact F30 0x89479408760 0x1101 rfl hsz hil))) λb e ht=>?_;have:v = .ref b:=by rw[List.getD_eq_getElem?_getD,hi]at e;exact e
   subst this;obtain ⟨_,_,_,o,ho,hc,_⟩:=ht;apply Z;clear Z;refine hc▸?_;simp only[Array.toArray_toList];exact (Looks.ld ho).andThen .now
  dsimp only [Array.toArray_toList];have est:SortSt.mk' oneType' (vs.zip vs) #[] 7 none=kas_st oneType' (pairsOf vs.toList) (List.toArray (List.range xs.length)):=by have e:=kas_range (pairsOf vs.toList);rw[pairsOf_size,Array.length_toList,hsz]at e;unfold kas_st;rw[e];unfold pairsOf;rfl
  refine est▸?_
  refine wB (wpAny_mono (kas_runs (E:=E) (κ:=oneType') (it:=pairsOf vs.toList) (n:=xs.length) (G:=λp s'=>s'={ s with heap:=((s.heap.update a (Obj.mapSeq λ_=>(#[]:Array Value))).push (seqObj "tuple" vs 0)).push (seqObj "list" #[] 0) }/\PM xs.length p/\UpTo (λi j=>lexB (xs.getD i (0,0,0)) (xs.getD j (0,0,0))) p xs.length)
   (Q:=λ_ st' s'=>∃ p:Array Nat,arrOf st'=p.map (kas_item (pairsOf vs.toList))/\failedOf st'=none/\s'={ s with heap:=((s.heap.update a (Obj.mapSeq λ_=>(#[]:Array Value))).push (seqObj "tuple" vs 0)).push (seqObj "list" #[] 0) }/\PM xs.length p/\UpTo (λi j=>lexB (xs.getD i (0,0,0)) (xs.getD j (0,0,0))) p xs.length) (by (exact F20 0x82452474208760 0x1101 rfl hsz h2)) h64 (λp' st' s' _ a2 a3 a4=>⟨p',a2,a3,a4⟩) ?_) ?_ λ_ _ e=>e)
  .refine KS.wp (λi j C hi hj hc=>?_) (λp hp=>⟨rfl,hp⟩) (Zql (Zub nd) (by lia));refine hide λ_ Z=>?_;refine aa (tri i hi) λb1 eb1 ht1=>?_;refine aa (tri j hj) λb2 eb2 ht2=>?_;apply Z;clear Z;show kas_cmp PW W0 A oneType' (pairsOf vs.toList) i j C _;rw[<-kas_ask_eq];show wpAny _ _ (keyLt' oneType' (vs.toList.getD i Value.none) (vs.toList.getD j Value.none)) _ _ _;refine eb1▸eb2▸?_;exact Zsm (s:={ s with heap:=((s.heap.update a (Obj.mapSeq λ_=>(#[]:Array Value))).push (seqObj "tuple" vs 0)).push (seqObj "list" #[] 0) }) hu X2 hf hm ht1 ht2 hc
  .rintro ⟨⟨⟩,st'⟩ s' ⟨p,harr,hff,rfl,hpm,hup⟩;dsimp only;refine wB (seqEpoch_at ho2 rfl ?_);have e0:(arrOf st').map (·.2)=List.toArray (p.toList.map λi=>vs.toList.getD i Value.none):=by apply Array.toList_inj.mp;rw[harr,Array.map_map,Array.toList_map];exact List.map_congr_left λi _=>by show (kas_item (pairsOf vs.toList) i).2=_;rw[kas_item_eq]
   refine wB (listUpdate_at ho2 rfl ?_ (Nat.zero_le _) (by rw[e0];simp only[List.size_toArray,List.length_map,Array.length_toList,hpm.sz];rw[sizeLine_eq];lia));refine hff▸?_;simp;refine e0▸?_;refine wP (fin _ hpm.pm ?_);rw[List.pairwise_map,List.pairwise_iff_getElem];intro i j hi hj hij;have hj':j < xs.length:=by rw[Array.length_toList,hpm.sz]at hj;exact hj
   have:=hup i j hij hj';have g:∀ k (hk:k < p.toList.length),p.getD k 0=p.toList[k]:=λk hk=>by
    have hk':k < p.size:=by simpa using hk
    simp[Array.getD,hk']
   rw[g i hi,g j hj]at this;exact this
theorem Zpg {o:Expr} {apos pos}{pl:Sem Bool}{Q:QV} (G:Gnd K B) (hf:findIn K (.ref 135) "__lt__" = some (some (.builtin "tuple.__lt__"))) (hm:mroIn K 135 (.type "tuple")=some true) (hu:A.units + 4 < cLine)
  (h:EV (model PW W0) A E B env o m hp λl hp₁=>∃ a xs,l = .ref a/\hp₁ a=some (.list (xs.map triV))/\a≠env.locals/\xs.Nodup/\xs.length < 64/\∀ ys:List Tri,ys.Perm xs->ys.Pairwise (λa b=>lexB a b=true)->Q .none (hp₁.set a (.list (ys.map triV))))
  (hc:eval (.Call (.Attribute o (PySem.Str.ofString "sort") apos) [] [] pos) env=(do
   let ov <-eval o env
   standAt apos.atName
   let (f,first) <-holding [ov] (getMethod ov (PySem.Str.ofString "sort") pl)
   callWith pos f first (backTo pos (starEach [] env)) []):=by rfl) :
  EV (model PW W0) A E B env (.Call (.Attribute o (PySem.Str.ofString "sort") apos) [] [] pos) m hp Q:=λs r=>by
 refine MethodCall_ (pl:=pl) (h.use r λu s₁ l hp₁ r₁ le₁ hu' x=>?_) hc;refine hide λ_ Z=>?_;refine aN x λa xs V ha hL nd h64 q=>?_;clear x;subst V;apply Z;clear Z;simp only[VR]at hu';subst hu';refine Zek slot_list_sort F.type_list_sort r₁ ha hL ?_;refine hide λ_ Z=>?_;obtain ⟨us,n,hl,_⟩:=r₁.at ha hL;apply Z;clear Z;refine callWith_method0 (wpAny_call_entry slot_list_sort ⟨_,hl,rfl⟩ entry_list_sort (Zku G hf hm ?_ r₁ ha hL nd h64 λys s' hp hpw r' le'=>⟨_,rfl,.none,_,r',le₁.trans le',VR_none,q ys hp hpw⟩) (args_list_sort _));show A.units + 1 < cLine
 (exact ul ‹_› (by decide))
end
theorem mp_mro:mroOf (.type "map")=pure [.type "map",.type "object"]:=by rw[mroOf_type];kernel_rfl
theorem Zsi:typeLookup (.type "map") "__new__" = pure (some (.builtin "map.__new__")):=by rw[typeLookup_type,builtinLookup_eq_fast];kernel_rfl
theorem mp_init:Slot "map" "__init__" "object.__init__" :=
 .of (owner := "object") (n := "__init__") (by rw[typeLookup_type,builtinLookup_eq_fast];kernel_rfl) (by decide +kernel) (by decide +kernel) (by decide +kernel)
  (by exact .inl (by decide +kernel)) (by rw[isSubtype_type];kernel_rfl)
theorem mp_sub:isSubtype (.type "map") (.type "map")=pure true:=by rw[isSubtype_type];kernel_rfl
theorem Zk4:TypeCalled "map" "map.__new__" "object.__init__" :=
 ⟨by decide +kernel,by decide +kernel,⟨_,_,mp_mro⟩,madeBy_type mp_mro Zsi (by decide +kernel),by decide +kernel,mp_sub,mp_init⟩
theorem Zt8 (a b:Value):checkTypeCall "map" ⟨[a,b],[]⟩=pure ():=by kernel_rfl
theorem Zua (a b:Value):checkBuiltinCall "map.__new__" ⟨[.type "map",a,b],[]⟩=pure ():=by kernel_rfl
theorem Zoc:entryFor table "map.__new__" = some Builtin.«map.__new__»:=entryFor_of_tree (by kernel_rfl)
theorem Zt9 (a b c:Value):argsOk "object.__init__" ⟨[a,b,c],[]⟩:=by unfold argsOk;kernel_rfl
theorem Zk3:Slot "map" "__iter__" "map.__iter__" :=
 .of (owner := "map") (n := "__iter__") (by rw[typeLookup_type,builtinLookup_eq_fast];kernel_rfl) (by decide +kernel) (by decide +kernel) (by decide +kernel)
  (by exact .inl (by decide +kernel)) (by rw[isSubtype_type];kernel_rfl)
theorem mp_next:Slot "map" "__next__" "map.__next__" :=
 .of (owner := "map") (n := "__next__") (by rw[typeLookup_type,builtinLookup_eq_fast];kernel_rfl) (by decide +kernel) (by decide +kernel) (by decide +kernel)
  (by exact .inl (by decide +kernel)) (by rw[isSubtype_type];kernel_rfl)
theorem Zft:entryFor table "map.__iter__" = some Builtin.«dict_keyiterator.__iter__»:=
 entryFor_alias (id' := "dict_keyiterator.__iter__") (by kernel_rfl) (by rfl) (by decide +kernel) (by kernel_rfl)
theorem Zdh:entryFor table "map.__next__" = some Builtin.«map.__next__»:=entryFor_of_tree (by kernel_rfl)
theorem Zgt (a:Value):argsOk "map.__iter__" ⟨[a],[]⟩:=by unfold argsOk;kernel_rfl
theorem Zd8 (a:Value):argsOk "map.__next__" ⟨[a],[]⟩:=by unfold argsOk;kernel_rfl
theorem Zob:typeLookup (.type "map") "__len__" = pure none:=by rw[typeLookup_type,builtinLookup_eq_fast];kernel_rfl
theorem Zk2:typeLookup (.type "map") "__length_hint__" = pure none:=by rw[typeLookup_type,builtinLookup_eq_fast];kernel_rfl
noncomputable def Zbz (t:Addr) (f:Value):Obj:={ cls:=.type "map",data:=.fields #[.ref t,f] }
theorem mapOb_notImm {t:Addr}{f:Value}:¬ Imm (Zbz t f):=by rintro ⟨_,_,_,e⟩;cases e
noncomputable def liOb (l:Addr) (i:Nat):Obj:={ cls:=.type "list_iterator",data:=.fields #[.ref l,.int i 0] }
theorem liOb_notImm {l:Addr}{i:Nat}:¬ Imm (liOb l i):=by rintro ⟨_,_,_,e⟩;cases e
theorem Zfu (f:Value) (l:Addr) (items:Array Value) (n:Nat) (dct:Option Addr) (sl:Array (Option Value)) :
  Meets (Builtin.«map.__new__» ⟨[.type "map",f,.ref l],[]⟩) (λ_ R s=>s.heap.get? l=some { cls:=.type "list",dict:=dct,data:=.seq items n,slots:=sl } /\
   R (.ok (.ret (.ref (s.heap.objs.size + 2)))) { s with heap:=((s.heap.push (liOb l 0)).push { cls:=.type "tuple",data:=.seq #[.ref s.heap.objs.size] }).push (Zbz (s.heap.objs.size + 1) f) }):=
 .of_wp λPW W0 A R s h=>by
  obtain ⟨hp,g,d,tk,os⟩:=s;obtain ⟨hl,h⟩:=h;have hsub:=mp_sub;have hL:Heap.IsList (Shared.heap ⟨hp,g,d,tk,os⟩) l items:=⟨_,hl,rfl,n,rfl⟩;have e1:(hp.push (liOb l 0)).objs.size=hp.objs.size + 1:=Heap.size_push ..;have e2:((hp.push (liOb l 0)).push { cls:=.type "tuple",data:=.seq #[.ref hp.objs.size] }).objs.size=hp.objs.size + 2:=by rw[Heap.size_push,e1]
  wp_walk using wpAny_pyIter_list hL
  refine ⟨_,rfl,?_⟩;have h':R (.ok (.ret (.ref (hp.objs.size + 2)))) ⟨((hp.push (liOb l 0)).push { cls:=.type "tuple",data:=.seq #[.ref hp.objs.size] }).push (Zbz (hp.objs.size + 1) f),g,d,tk,os⟩:=h;replace h':=e1▸e2▸h';exact h'
section
variable {A:Around}{E:ET}{s:Shared}
theorem Zo2 {f:Value}{l:Addr}{items:Array Value}{Q:ET} (hL:s.heap.IsList l items)
  (h:Q (.ref (s.heap.objs.size + 2)) { s with heap:=((s.heap.push (liOb l 0)).push { cls:=.type "tuple",data:=.seq #[.ref s.heap.objs.size] }).push (Zbz (s.heap.objs.size + 1) f) }) :
  wpAny (model PW W0) A (call (.type "map") [f,.ref l]) Q E s:=by
 refine hide λ_ Z=>?_;obtain ⟨⟨c,dct,dt,sl⟩,hl,hc,n,hd⟩:=hL;replace hc:c = .type "list" := hc;replace hd:dt = .seq items n:=hd;subst hc hd;apply Z;clear Z;refine callType_new Zk4 (by decide) (Zt8 _ _) (Zua _ _) (λobj=>Zt9 obj _ _) Zoc (Zfu f l items n dct sl) ⟨hl,?_⟩;have hz:((s.heap.push (liOb l 0)).push { cls:=.type "tuple",data:=.seq #[.ref s.heap.objs.size] }).objs.size=s.heap.objs.size + 2:=by rw[Heap.size_push,Heap.size_push]
 refine ⟨⟨Zbz (s.heap.objs.size + 1) f,?_,rfl⟩,h⟩;show (((s.heap.push (liOb l 0)).push { cls:=.type "tuple",data:=.seq #[.ref s.heap.objs.size] }).push (Zbz (s.heap.objs.size + 1) f)).get? (s.heap.objs.size + 2)=_;refine hz▸?_;exact Heap.get?_push_size _ rfl
theorem Zqx {it l:Addr}{i:Nat}{items:Array Value}{x:Value}{Q:ET} (hit:s.heap.IsListIter it l i) (hl:s.heap.IsList l items) (hx:items[i]?=some x)
  (hQ:∀ h',h'.IsListIter it l (i + 1)->Heap.SameBut it s.heap h'->Q x { s with heap:=h' }):wpAny (model PW W0) A (Builtin.SmallTypes.nextOf (.ref it)) Q E s:=by
 refine hide λ_ Z=>?_;refine ae (id hit) λo ho hc hd=>?_;obtain ⟨ol,hol,_,nl,hdl⟩:=hl;apply Z;clear Z;unfold Builtin.SmallTypes.nextOf;refine wB (wpAny_callSpecial?_slot (name:=PySem.Str.ofString "__next__") hit.typeIs slot_listiter_next (wpAny_call_entry slot_listiter_next hit.typeIs entry_listiter_next ?_ (args_listiter_next _)));show wpAny _ _ (field (.ref it) 0 >>= _) _ _ s;refine wB (wpAny_field ho hd (x:=.ref l) rfl ?_);show wpAny _ _ (if (Value.ref l == Value.none)=true then _ else _) _ _ s;rw[if_neg (show ¬ ((Value.ref l == Value.none)=true) from Bool.false_ne_true)];show wpAny _ _ (field (.ref it) 1 >>= _) _ _ s;refine wB (wpAny_field ho hd (x:=.int i 0) rfl ?_);show wpAny _ _ (seqItems? (.ref l) >>= _) _ _ s;refine wB (wpAny_seqItems hol hdl ?_);simp only[Int.toNat_natCast,hx];refine wB (wpAny_setField ho hd (by simp) (wP ⟨x,rfl,wP (hQ _ ?_ (Heap.SameBut.update ..))⟩));exact ⟨_,Heap.get?_update_self _ ho (Obj.isFreed_of_fields (Obj.data_mapFields hd _)),(Obj.cls_mapFields ..).trans hc,by rw[Obj.data_mapFields hd];rfl⟩
noncomputable def Zuq (e:Value) (s:Shared):Prop:=∃ x o,e = .ref x/\s.heap.get? x=some o/\o.cls = .type "StopIteration"
theorem Zsq {it l:Addr}{i:Nat}{items:Array Value}{Q:ET} (hh:A.handled=none) (hit:s.heap.IsListIter it l i) (hl:s.heap.IsList l items) (hx:items[i]?=none)
  (hQ:∀ e h',Heap.ExtBut it s.heap h'->Zuq e { s with heap:=h' }->E e { s with heap:=h' }):wpAny (model PW W0) A (Builtin.SmallTypes.nextOf (.ref it)) Q E s:=by
 refine hide λ_ Z=>?_;refine ae (id hit) λo ho hc hd=>?_;obtain ⟨ol,hol,_,nl,hdl⟩:=hl;apply Z;clear Z;unfold Builtin.SmallTypes.nextOf;refine wB (wpAny_callSpecial?_slot (name:=PySem.Str.ofString "__next__") hit.typeIs slot_listiter_next (wpAny_call_entry slot_listiter_next hit.typeIs entry_listiter_next ?_ (args_listiter_next _)));show wpAny _ _ (field (.ref it) 0 >>= _) _ _ s;refine wB (wpAny_field ho hd (x:=.ref l) rfl ?_);show wpAny _ _ (if (Value.ref l == Value.none)=true then _ else _) _ _ s;rw[if_neg (show ¬ ((Value.ref l == Value.none)=true) from Bool.false_ne_true)];show wpAny _ _ (field (.ref it) 1 >>= _) _ _ s;refine wB (wpAny_field ho hd (x:=.int i 0) rfl ?_);show wpAny _ _ (seqItems? (.ref l) >>= _) _ _ s;refine wB (wpAny_seqItems hol hdl ?_);simp only[Int.toNat_natCast,hx];refine wB (wpAny_rule (wB (wpAny_setField ho hd (by simp) ?_)));show wpAny _ _ (newExc (.type "StopIteration") [] >>= _) _ _ _;refine wB ?_;simp only[newExc,newTuple];refine wB (wpAny_newObj_type ?_ (by size_fits));refine wB (m:=firstArgMember _ _) (wpAny_of_eq (a:=Value.none) (by rfl) ?_);refine wpAny_newObj_type ?_ (by size_fits);dsimp only[raiseNew];refine wB (wpAny_handled ?_);refine (show A.in1.handled=none from hh)▸?_;refine wB (wP (wpAny_throw ?_));exact hQ _ _ (((Heap.SameBut.update ..).extBut.push _).push _) ⟨_,_,rfl,Heap.get?_push_size _ rfl,rfl⟩
theorem Zoh {mo t it l:Addr}{f x:Value}{i:Nat}{items:Array Value}{Q:Option Value->Shared->Prop} (hm:s.heap.get? mo=some (Zbz t f)) (ht:IsTup s.heap t #[.ref it]) (hit:s.heap.IsListIter it l i) (hl:s.heap.IsList l items) (hx:items[i]?=some x) (hmi:mo≠it)
  (hQ:∀ h',h'.IsListIter it l (i + 1)->Heap.SameBut it s.heap h'->wpAny (model PW W0) A.in1 (call f [x]) (λv s'=>Q (some v) s') (λ_ _=>False) { s with heap:=h' }):wpAny (model PW W0) A (pyNext (.ref mo)) Q E s:=by
 refine hide λ_ Z=>?_;have hmt:s.TypeIs (.ref mo) "map" := ⟨_,hm,rfl⟩;obtain ⟨ot,hot,_,nt,hdt⟩:=ht;apply Z;clear Z;unfold pyNext;refine wB (wpAny_attempt (wpAny_callSpecial?_slot (name:=PySem.Str.ofString "__next__") hmt mp_next (wpAny_call_entry mp_next hmt Zdh ?_ (Zd8 _))));show wpAny _ _ (field (.ref mo) 0 >>= _) _ _ s;refine wB (wpAny_field hm rfl (x:=.ref t) rfl ?_);show wpAny _ _ (seqItems? (.ref t) >>= _) _ _ s;refine wB (wpAny_seqItems hot hdt ?_);dsimp only;rw[<-Array.forIn_toList];simp only[List.forIn_cons,List.forIn_nil];refine wB (wB (wB (wpAny_holding (Zqx hit hl hx λh' hit' hs'=>?_))));refine wP ?_;dsimp only;refine wP ?_;refine wB (wpAny_field (s:={ s with heap:=h' }) ((hs'.2 mo hmi).trans hm) rfl (x:=f) rfl (wB (wpAny_holding (wpAny_mono (hQ h' hit' hs') (λv s' q=>?_) λ_ _ z=>False.elim z))));exact wB (wpAny_letGo (wP ⟨v,rfl,wP q⟩))
theorem Zqw {mo t it l:Addr}{f:Value}{i:Nat}{items:Array Value}{Q:Option Value->Shared->Prop} (hh:A.handled=none) (hm:s.heap.get? mo=some (Zbz t f)) (ht:IsTup s.heap t #[.ref it]) (hit:s.heap.IsListIter it l i) (hl:s.heap.IsList l items) (hx:items[i]?=none)
  (hQ:∀ h',Heap.ExtBut it s.heap h'->Q none { s with heap:=h' }):wpAny (model PW W0) A (pyNext (.ref mo)) Q E s:=by
 have hmt:s.TypeIs (.ref mo) "map" := ⟨_,hm,rfl⟩;obtain ⟨ot,hot,_,nt,hdt⟩:=ht;unfold pyNext;refine wB (wpAny_attempt (wpAny_callSpecial?_slot (name:=PySem.Str.ofString "__next__") hmt mp_next (wpAny_call_entry mp_next hmt Zdh ?_ (Zd8 _))));show wpAny _ _ (field (.ref mo) 0 >>= _) _ _ s;refine wB (wpAny_field hm rfl (x:=.ref t) rfl ?_);show wpAny _ _ (seqItems? (.ref t) >>= _) _ _ s;refine wB (wpAny_seqItems hot hdt ?_);dsimp only;rw[<-Array.forIn_toList];simp only[List.forIn_cons,List.forIn_nil];refine wB (wB (wB (wpAny_holding (Zsq hh hit hl hx λe h' he hx'=>?_))));refine ad hx' λx o V ho hc=>?_;subst V;refine wB (wpAny_isInstance (T := "StopIteration") (b:=true) ⟨_,ho,hc⟩ isSubtype_stop ?_);exact wP (hQ h' he)
end
section
variable {K:Frag}
theorem Zop {mo t S:Addr}{f:Value}{s:Shared}{R:Result->Shared->Prop} (hS:s.heap.get? S=some { cls:=.type "list",data:=.seq #[] }) (hm:s.heap.get? mo=some (Zbz t f)) (hSm:S≠mo)
  (hloop:∀ h' c',Heap.SameBut S s.heap h'->h'.get? S=some { cls:=.type "list",dict:=none,data:=.seq #[] c',slots:=#[] }->codeAny (model PW W0) A (.builtin "list.extend.loop" ⟨[.ref S,.ref mo,.none],[]⟩) R { s with heap:=h' }) :
  wpAny (model PW W0) A.in1 (Builtin.«list.__init__» ⟨[.ref S,.ref mo],[]⟩)
   (λfin s'=>match fin with | .done f=>R (.ok f) s' | .again c'=>c'.quiet=true/\codeAny (model PW W0) A c' R s') (λe s'=>R (.error e) s') s:=by
 show wpAny _ A.in1 (do let old <-Builtin.List.listItems (.ref S);Builtin.List.listUpdate (.ref S) (λ_=>#[]);letGo old.toList.reverse;Builtin.List.listExtendWith (.ref S) (.ref mo) .none) _ _ s;refine wB ?_;unfold Builtin.List.listItems;refine wB (wpAny_seqItems hS rfl (wP ?_));show wpAny _ A.in1 (updateSeq S (λ_=>#[]) >>= λ_=>letGo (#[]:Array Value).toList.reverse >>= λ_=>Builtin.List.listExtendWith (.ref S) (.ref mo) .none) _ _ s;refine wB (wpAny_updateSeq hS rfl ?_);have hS₁:=Heap.get?_update_self (Obj.mapSeq (λ_=>(#[]:Array Value))) hS rfl;have hs₁:Heap.SameBut S s.heap (s.heap.update S (Obj.mapSeq (λ_=>(#[]:Array Value)))):=Heap.SameBut.update ..;refine wB (wpAny_letGo ?_);have hm₁:=(hs₁.2 mo (Ne.symm hSm)).trans hm;have hT₁:({ s with heap:=s.heap.update S (Obj.mapSeq (λ_=>(#[]:Array Value))) }:Shared).TypeIs (.ref mo) "map" := ⟨_,hm₁,rfl⟩;unfold Builtin.List.listExtendWith;refine wB (wpAny_typeOf hT₁ ?_);have h1:Builtin.List.listSameRef (.ref S) (.ref mo)=false:=by exact if_neg hSm
 have h2:(Value.type "map" == Value.type "list")=false:=by decide
 have h3:(Value.type "map" == Value.type "tuple")=false:=by decide
 simp only[h1,h2,h3,Bool.or_false,Bool.false_eq_true,if_false];refine wB (wpAny_pyIter_slot hT₁ Zk3 (wpAny_call_entry Zk3 hT₁ Zft ?_ (Zgt _)));show wpAny _ _ (ret (.ref mo)) _ _ _;refine wP ⟨_,rfl, "map",_,hT₁,mp_next.lookup,?_⟩;refine wB (wpAny_holding ?_);unfold Builtin.List.listLengthHint;refine wB (wpAny_specialOf hT₁ Zob ?_);show wpAny _ A.in1 (specialOf (Value.ref mo) (PySem.Str.ofString "__length_hint__") >>= _) _ _ _;refine wB (wpAny_specialOf hT₁ Zk2 ?_);refine wP ?_;show wpAny _ A.in1 (rule "list.extend.makes-room" >>= λ_=>Builtin.List.listTouch (.ref S) >>= λ_=>again (.builtin "list.extend.loop" ⟨[.ref S,.ref mo,.none],[]⟩)) _ _ _;refine wB (wpAny_rule (wB ?_));show wpAny _ A.in1 (updateSeq S (·.push .none) >>= λ_=>updateSeq S (·.pop)) _ _ _;refine wB (wpAny_updateSeq hS₁ rfl ?_);have hSV:=Heap.get?_update_self (Obj.mapSeq (·.push Value.none)) hS₁ rfl;refine wpAny_updateSeq (hz:=by seq_fits) hSV rfl ?_;have hSX:=Heap.get?_update_self (Obj.mapSeq (·.pop)) hSV rfl;refine wP ⟨plainId_quiet PySem.F.plain_extend_loop _,hloop _ _ ?_ hSX⟩;exact (hs₁.trans (Heap.SameBut.update ..)).trans (Heap.SameBut.update ..)
theorem Zl6 {mo t it l S fA:Addr}{xs:List AV}{I:Nat->List AV->Hp->Prop}{res:Value}{R:Result->Shared->Prop} {h0:Heap} (hh:A.handled=none) (hSL:S≠env.locals) (hmL:mo≠env.locals) (hiL:it≠env.locals) (hSm:S≠mo) (hSi:S≠it) (hmi:mo≠it) (hn:xs.length<=5000)
  (hset:∀ i acc hp z o,z=S\/z=it->I i acc hp->I i acc (hp.set z o)) (hlst:∀ i acc hp,I i acc hp->Lst B hp env.locals l xs)
  (hkm:∀ i acc hp,I i acc hp->hp mo=some (.obj (Zbz t (.ref fA))))
  (turn:∀ i x acc hp,xs[i]?=some x->I i acc hp->CL (model PW W0) A.in1.in1 (λ_ _=>False) B env (.ref fA) m [x] hp λv hp'=>(∀ z,z=S\/z=it->hp' z=hp z)/\I (i + 1) (acc ++ [v]) hp')
  (hR:∀ s' acc hp',Rel B ((hp'.del it).set env.locals (.ns m)) s'->ImmLe h0 s'.heap->I xs.length acc hp'->hp' S=some (.list acc)->R (.ok (.ret res)) s') :
  ∀ (k i:Nat) (s:Shared) (hp:Hp) (acc:List AV) (ob:Obj),xs.length - i=k->i<=xs.length->acc.length=i->Rel B (hp.set env.locals (.ns m)) s->ImmLe h0 s.heap->IsTup s.heap t #[.ref it]->I i acc hp->hp S=some (.list acc)->hp it=some (.obj ob)->ob.cls = .type "list_iterator" -> ob.data = .fields #[.ref l,.int i 0] ->
   codeAny (model PW W0) A (.builtin "list.extend.loop" ⟨[.ref S,.ref mo,res],[]⟩) R s:=by
 intro k
 induction k with
 | zero=>
  intro i s hp acc ob hk hi hal r le ht hI hS hit hoc hod;have hin:i=xs.length:=by (exact F20 0x986985004760780a 0x110000100101 rfl hk hi)
  subst hin;refine codeAny_builtin PySem.F.entry_extend_loop ?_;rw[Around.under_plainId PySem.F.plain_extend_loop _];show wpAny _ A.in1 (pyNext (.ref mo) >>= _) _ _ s;refine hide λ_ Z=>?_;refine aa (r.lst (hlst _ _ _ hI)) λvs hl hvs=>?_;apply Z;clear Z;have hm:=(r.at (hkm _ _ _ hI) hmL).1;have hi':=(r.at hit hiL).1;refine wB (Zqw (A:=A.in1) hh hm ht ⟨_,hi',hoc,hod⟩ hl (Array.getElem?_eq_none (by rw[<-Array.length_toList,hvs.length];exact Nat.le_refl _)) λh' he=>?_);refine hide λ_ Z=>?_;obtain ⟨r',le'⟩:=r.drop (it:=it) hit hiL he s.toks;apply Z;clear Z;exact wP (hR _ acc hp r' (le.trans le') hI hS)
 | succ k ih=>
  intro i s hp acc ob hk hi hal r le ht hI hS hit hoc hod;have hlt:i < xs.length:=by (exact F30 0xa94680760891a 0x100111010 rfl hk)
  refine codeAny_builtin PySem.F.entry_extend_loop ?_;rw[Around.under_plainId PySem.F.plain_extend_loop _];show wpAny _ A.in1 (pyNext (.ref mo) >>= _) _ _ s;refine hide λ_ Z=>?_;refine aa (r.lst (hlst _ _ _ hI)) λvs hl hvs=>?_;have hm:=(r.at (hkm _ _ _ hI) hmL).1;have hi':=(r.at hit hiL).1;refine aa (hvs.get (i:=i) (x:=xs.getD i .none) (Zc6 hlt)) λv hv hxv=>?_;apply Z;clear Z;refine wB (Zoh (A:=A.in1) hm ht ⟨_,hi',hoc,hod⟩ hl (by simpa using hv) hmi λh' hit' hs'=>?_);refine hide λ_ Z=>?_;refine ae hit' λob' hg' hc' hd'=>?_;obtain ⟨r1,le1⟩:=r.turn (a:=it) (o:=.obj ob) (Hp.snt hiL hit) hs' (.obj ob') (λ_=>⟨hg',λh=>by obtain ⟨_,_,_,e⟩:=h;rw[hd']at e;cases e⟩) s.toks;apply Z;clear Z;rw[Hp.sc _ _ _ (Ne.symm hiL)]at r1;refine Zt2 (turn i _ acc _ (Zc6 hlt) (hset i acc hp it _ (.inr rfl) hI) _ [v] r1 (VRs.one (hxv.mono le1))) λu s2 av hp2 r2 le2 hu yq=>?_;refine hide λ_ Z=>?_;obtain ⟨hk2,hI2⟩:=yq;have hS2:hp2 S=some (.list acc):=by rw[hk2 S (.inl rfl),Hp.sn _ _ hSi];exact hS
  have hit2:hp2 it=some (.obj ob'):=by rw[hk2 it (.inr rfl),Hp.ss]
  refine am (r2.at hS2 hSL) λus nn hl2 hus=>?_;have hsz:us.size=acc.length:=by refine Array.length_toList▸?_;exact hus.length
  obtain ⟨r3,le3⟩:=r2.turn (a:=S) (o:=.list acc) (Hp.snt hSL hS2) (h':=s2.heap.update S (Obj.mapSeq (·.push u))) (Heap.SameBut.update ..) (.list (acc ++ [av]))
   (λle=>⟨_,_,IsL.update hl2 (·.push u),by rw[Array.toList_push];exact (hus.mono le).append (VRs.one (hu.mono le))⟩) s2.toks
  apply Z;clear Z;rw[Hp.sc _ _ _ (Ne.symm hSL)]at r3;show wpAny _ A.in1 (updateSeq S (·.push u) >>= _) _ _ _;refine wB (wpAny_updateSeq hl2 rfl (wP ⟨plainId_quiet PySem.F.plain_extend_loop _,?_⟩) (by rw[hsz];have:=sizeLine_eq;lia) (by show (us.push u).size<=sizeLine + 1;rw[Array.size_push,hsz];have:=sizeLine_eq;lia));exact ih (i + 1) _ _ (acc ++ [av]) ob' (by (exact F30 0x986690760a91a69081a 0x10000011100100100000111010100100100010010010101101101001 rfl hk)) hlt (by simp[hal]) r3 (((le.trans le1).trans le2).trans le3) (IsTup.imm ((le1.trans le2).trans le3) ht) (hset _ _ _ S _ (.inl rfl) hI2) (Hp.ss ..) (Hp.snt (Ne.symm hSi) hit2) hc' hd'
noncomputable abbrev LMI (PW:Program) (W0:World) (A:Around) (B:Shared) (env:Env) (m:Loc) (Q:QV) (hp₂:Hp) (fA l:Addr) (xs:List AV) (S mo it t:Addr):Prop:=
 ∃ I:Nat->List AV->Hp->Prop,
    I 0 [] (((hp₂.set it (.obj (liOb l 0))).set mo (.obj (Zbz t (.ref fA)))).set S (.list []))/\(∀ i acc hp z o,z=S\/z=it->I i acc hp->I i acc (hp.set z o))/\(∀ i acc hp,I i acc hp->Lst B hp env.locals l xs) /\
    (∀ i acc hp,I i acc hp->hp mo=some (.obj (Zbz t (.ref fA)))) /\
    (∀ A',A'.handled=none->A'.depth=A.depth->A'.units<=A.units + 8->∀ i x acc hp,xs[i]?=some x->I i acc hp->CL (model PW W0) A' (λ_ _=>False) B env (.ref fA) m [x] hp λv hp'=>(∀ z,z=S\/z=it->hp' z=hp z)/\I (i + 1) (acc ++ [v]) hp') /\
    (∀ acc hp',I xs.length acc hp'->hp' S=some (.list acc)->Q (.ref S) (hp'.del it))
noncomputable abbrev LM3 (PW:Program) (W0:World) (A:Around) (B:Shared) (env:Env) (m:Loc) (Q:QV) (vs:List AV) (hp₂:Hp):Prop:=
 ∃ fA l xs,vs=[.ref fA,.ref l]/\Lst B hp₂ env.locals l xs/\xs.length<=5000/\∀ S mo it t,S≠env.locals->S≠mo->S≠it->mo≠it->hp₂ S=none->hp₂ mo=none->hp₂ it=none->LMI PW W0 A B env m Q hp₂ fA l xs S mo it t
noncomputable abbrev LM2 (PW:Program) (W0:World) (A:Around) (E:ET) (B:Shared) (env:Env) (m:Loc) (fe xe:Expr) (Q:QV) (gv:AV) (hp₁:Hp):Prop:=gv = .ty "map" /\ EVS (model PW W0) A E B env [fe,xe] m hp₁ (LM3 PW W0 A B env m Q)
noncomputable abbrev LM1 (PW:Program) (W0:World) (A:Around) (E:ET) (B:Shared) (env:Env) (m:Loc) (mfunc fe xe:Expr) (Q:QV) (fv:AV) (hpZ:Hp):Prop:=fv = .ty "list" /\ EV (model PW W0) A E B env mfunc m hpZ (LM2 PW W0 A E B env m fe xe Q)
theorem Zke {func mfunc fe xe:Expr} {mpos pos}{Q:QV} (hh:A.handled=none)
  (h:EV (model PW W0) A E B env func m hp (LM1 PW W0 A E B env m mfunc fe xe Q))
  (hc0:eval (.Call func [.Call mfunc [fe,xe] [] mpos] [] pos) env=(do callWith pos (<-eval func env) [] (backTo pos (starEach [.Call mfunc [fe,xe] [] mpos] env)) (backToKw pos (keywordEach [] env))):=by rfl)
  (he0:starEach [.Call mfunc [fe,xe] [] mpos] env=[(false,eval (.Call mfunc [fe,xe] [] mpos) env)]:=by rfl)
  (hc1:eval (.Call mfunc [fe,xe] [] mpos) env=(do callWith mpos (<-eval mfunc env) [] (backTo mpos (starEach [fe,xe] env)) (backToKw mpos (keywordEach [] env))):=by rfl)
  (he1:starEach [fe,xe] env=(false,eval fe env) :: starEach [xe] env:=by rfl) (hp1:(backTo mpos (starEach [xe] env)).any (·.1)=false:=by rfl) :
  EV (model PW W0) A E B env (.Call func [.Call mfunc [fe,xe] [] mpos] [] pos) m hp Q:=λs r=>by
 refine Call_ (h.use r λu s₀ fv hpZ rZ leZ hu yq=>?_) hc0;refine hide λ_ Z=>?_;refine az yq λhf0 q=>?_;subst hf0;simp only[VR]at hu;subst hu;apply Z;clear Z;refine PyProof.Rows.callWith_type1 (args_cons ?_ he0) he0 rfl;refine Call_ (q.use rZ λu s₁ gv hp₁ r₁ le₁ hu yq=>?_) hc1;refine hide λ_ Z=>?_;refine az yq λhf1 q=>?_;subst hf1;simp only[VR]at hu;subst hu;apply Z;clear Z;refine PyProof.Rows.callWith_type1 (Zcr (q mpos s₁ r₁) λvs sV avs hp₂ rV leV hv q=>?_) he1 hp1;refine hide λ_ Z=>?_;obtain ⟨fA,l,xs,rfl,hl,hlen,q⟩:=q;refine ad (Zbg hv) λv1 v2 V h1 h2=>?_;subst V;simp only[VR]at h1 h2;subst h1;subst h2;refine aa (rV.lst hl) λus hlst hus=>?_;apply Z;clear Z;refine Zo2 hlst ?_;refine hide λ_ Z=>?_;have n1:=rV.newAt (liOb l 0) (.obj (liOb l 0)) ⟨Heap.get?_push_size _ rfl,liOb_notImm⟩;refine ak n1 λrel1 hit hiL le3=>?_;generalize hitA:sV.heap.objs.size=it at *;have rel2:=rel1.push { cls:=.type "tuple",data:=.seq #[.ref it] };have ez1:(sV.heap.push (liOb l 0)).objs.size=it + 1:=by rw[Heap.size_push,hitA]
 have ez2:((sV.heap.push (liOb l 0)).push { cls:=.type "tuple",data:=.seq #[.ref it] }).objs.size=it + 2:=by rw[Heap.size_push,ez1]
 have htup:IsTup ((sV.heap.push (liOb l 0)).push { cls:=.type "tuple",data:=.seq #[.ref it] }) (it + 1) #[.ref it]:=⟨_,by rw[<-ez1];exact Heap.get?_push_size _ rfl,rfl,0,rfl⟩;have n2:=rel2.newAt (Zbz (it + 1) (.ref fA)) (.obj (Zbz (it + 1) (.ref fA))) ⟨Heap.get?_push_size _ rfl,mapOb_notImm⟩;refine ak n2 λrel3 hmo hmL le4=>?_;apply Z;clear Z;change Rel B ((Hp.set _ ((sV.heap.push (liOb l 0)).push { cls:=.type "tuple",data:=.seq #[.ref it] }).objs.size _).set _ _) _ at rel3;change Hp.set _ _ _ ((sV.heap.push (liOb l 0)).push { cls:=.type "tuple",data:=.seq #[.ref it] }).objs.size=none at hmo;change ((sV.heap.push (liOb l 0)).push { cls:=.type "tuple",data:=.seq #[.ref it] }).objs.size≠_ at hmL;rw[ez2]at rel3 hmo hmL;have hmi:it + 2≠it:=Nat.ne_of_gt (Nat.lt_add_of_pos_right (Nat.succ_pos 1));have le5:ImmLe s.heap (((sV.heap.push (liOb l 0)).push { cls:=.type "tuple",data:=.seq #[.ref it] }).push (Zbz (it + 1) (.ref fA))):=(((leZ.trans le₁).trans leV).trans (le3.trans (ImmLe.keep λb o e=>Heap.get?_push_of_some _ e))).trans le4;have hmo2:hp₂ (it + 2)=none:=Hp.snr hmi hmo;refine args_nil ?_;refine callType_codes (Q₁:=λobj s₁'=>obj = .ref (((sV.heap.push (liOb l 0)).push { cls:=.type "tuple",data:=.seq #[.ref it] }).push (Zbz (it + 1) (.ref fA))).objs.size/\s₁'={ sV with heap:=(((sV.heap.push (liOb l 0)).push { cls:=.type "tuple",data:=.seq #[.ref it] }).push (Zbz (it + 1) (.ref fA))).push { cls:=.type "list",data:=.seq #[] } }) PySem.F.called_list (PySem.F.typeCall_list_1 _) PySem.F.entry_list_init (code_list_new _ ⟨rfl,rfl⟩) λobj s₁' h₁=>?_;refine hide λ_ Z=>?_;obtain ⟨rfl,rfl⟩:=h₁;have ez3:(((sV.heap.push (liOb l 0)).push { cls:=.type "tuple",data:=.seq #[.ref it] }).push (Zbz (it + 1) (.ref fA))).objs.size=it + 3:=by rw[Heap.size_push,ez2]
 have hS:((((sV.heap.push (liOb l 0)).push { cls:=.type "tuple",data:=.seq #[.ref it] }).push (Zbz (it + 1) (.ref fA))).push { cls:=.type "list",data:=.seq #[] }).get? (((sV.heap.push (liOb l 0)).push { cls:=.type "tuple",data:=.seq #[.ref it] }).push (Zbz (it + 1) (.ref fA))).objs.size=some { cls:=.type "list",data:=.seq #[] }:=Heap.get?_push_size _ rfl;have x:=Rel.newAt rel3 { cls:=.type "list",data:=.seq #[] } (.list []) ⟨#[],0,hS,by rfl⟩;refine ak x λrel4 hSn hSL le6=>?_;apply Z;clear Z;change Rel B ((Hp.set _ (((sV.heap.push (liOb l 0)).push { cls:=.type "tuple",data:=.seq #[.ref it] }).push (Zbz (it + 1) (.ref fA))).objs.size _).set _ _) _ at rel4;change Hp.set _ _ _ (((sV.heap.push (liOb l 0)).push { cls:=.type "tuple",data:=.seq #[.ref it] }).push (Zbz (it + 1) (.ref fA))).objs.size=none at hSn;change (((sV.heap.push (liOb l 0)).push { cls:=.type "tuple",data:=.seq #[.ref it] }).push (Zbz (it + 1) (.ref fA))).objs.size≠_ at hSL;change ImmLe (((sV.heap.push (liOb l 0)).push { cls:=.type "tuple",data:=.seq #[.ref it] }).push (Zbz (it + 1) (.ref fA))) _ at le6;rw[ez3]at rel4 hSn hSL hS ⊢;have hSm:it + 3≠it + 2:=Nat.succ_ne_self (it + 2);have hSi:it + 3≠it:=Nat.ne_of_gt (Nat.lt_add_of_pos_right (Nat.succ_pos 2));have hS2:hp₂ (it + 3)=none:=by rw[Hp.sn _ _ hSm,Hp.sn _ _ hSi]at hSn;exact hSn
 have hmo4:=(rel4.objs (it + 2) (.obj (Zbz (it + 1) (.ref fA))) (Hp.snt hmL (Hp.snt (Ne.symm hSm) (Hp.ss ..)))).2.1;refine ⟨⟨_,hS,rfl⟩,PySem.F.args_list_init_2 _ _,Zop (A:=A.in1) (t:=it + 1) (f:=.ref fA) hS hmo4 hSm λh' c' hs' hS'=>?_⟩;refine hide λ_ Z=>?_;obtain ⟨rel5,le7⟩:=Rel.turn rel4 (a:=it + 3) (o:=.list []) (Hp.snt hSL (Hp.ss ..)) hs' (.list []) (λ_=>⟨#[],c',hS',by rfl⟩) sV.toks;rw[Hp.sc _ _ _ (Ne.symm hSL),Hp.set_set]at rel5;have leF:ImmLe s.heap h':=(le5.trans le6).trans le7;refine aP (q (it + 3) (it + 2) it (it + 1) hSL hSm hSi hmi hS2 hmo2 hit) λI i0 i1 i2 i3 i4 i5=>?_;apply Z;clear Z;refine Zl6 (A:=A.in1) (t:=it + 1) (h0:=s.heap) (I:=I) hh hSL hmL hiL hSm hSi hmi hlen i1 i2 i3 (i4 A.in1.in1.in1 hh rfl (by show A.units + 1 + 1 + 1<=_;(exact F10 0x847066670005 0x1 rfl))) (λs' acc hp' r' le' hI hS3=>⟨rfl,.ref (it + 3),_,r',le',VR_ref,i5 acc hp' hI hS3⟩) _ 0 _ _ [] (liOb l 0) rfl (Nat.zero_le _) rfl rel5 leF (IsTup.imm ((le4.trans le6).trans le7) htup) i0 (Hp.ss ..) (Hp.snt (Ne.symm hSi) (Hp.snt (Ne.symm hmi) (Hp.ss ..))) rfl rfl
end
theorem methodObj_notImm {f self:Value}:¬ Imm (methodObj f self):=by rintro ⟨_,_,_,e⟩;cases e
theorem Zqg:builtinKind "tuple.__len__" = some .slot:=by decide +kernel
theorem Znk:splitId "tuple.__len__" = some ("tuple", "__len__"):=by decide +kernel
section
variable {K:Frag}
theorem Zrs {o:Expr}{name:PySem.Str} {pos}{C p:Addr}{mc f:Value}{rest:List Value}{Q:QV} (G:Gnd K B) (hr:readsIn K C mc=true) (hfc:findCls K (.ref C) mc name=some (.get (.builtin "classmethod.__get__") (.ref p) .none (.ref C))) (hrec:recIn K p "classmethod" = some (f :: rest))
  (h:EV (model PW W0) A E B env o m hp λv hp₁=>v = .ref C/\∀ x,hp₁ x=none->x≠env.locals->Q (.ref x) (hp₁.set x (.obj (methodObj f (.ref C)))))
  (he:eval (.Attribute o name pos) env=(do
   let ov <-eval o env
   standAt pos.atName
   let r <-holding [ov] (getAttr ov name true)
   letTemporaryGo o ov r
   pure r):=by with_unfolding_all rfl) :
  EV (model PW W0) A E B env (.Attribute o name pos) m hp Q:=λs r=>by
 rw[he];refine wB (h.use r λv s₁ av hp₁ r₁ le₁ hv x=>wB (wpAny_standAt (wB (wpAny_holding ?_))));obtain ⟨rfl,q⟩:=x;simp only[VR]at hv;subst hv;refine cls_bind (G.X.keeps r₁.keep) hr hfc (wpAny_call (cm_get (s:={ s₁ with toks:=s₁.toks + 1 }) (G.X.keeps r₁.keep) hrec (handed_on rfl ?_)));have n:=(r₁.toks (s₁.toks + 1)).newAt (methodObj f (.ref C)) (.obj (methodObj f (.ref C))) ⟨Heap.get?_push_size _ rfl,methodObj_notImm⟩;exact wB (wpAny_letTemporaryGo (wP (mkV (av:=.ref _) n.1 (le₁.trans n.2.2.2) VR_ref (q _ n.2.1 n.2.2.1))))
theorem Zna {q:Addr}{f self:Value}{sv:AV}{avs:List AV}{Q:QV} (hq:hp q=some (.obj (methodObj f self))) (hL:q≠env.locals) (hs:∀ h,VR h sv self) (h:CD (model PW W0) A E B env f m (sv :: avs) hp Q):CL (model PW W0) A E B env (.ref q) m avs hp Q:=λs vs r hv=>by refine wpAny_call (method_call (s:=s) (r.at hq hL).1 ?_);exact h s (self :: vs) r (by simp only[VRs];exact ⟨_,_,rfl,hs _,hv⟩)
theorem Zrw {xs:List AV}{Q:QV} (G:Gnd K B) (hf:findIn K (.ref 135) "__len__" = some (some (.builtin "tuple.__len__"))) (hm:mroIn K 135 (.type "tuple")=some true) (hsz:xs.length<=sizeLine) (h:Q (.int xs.length) hp):CL (model PW W0) A E B env (.builtin "len") m [.mat xs] hp Q:=λs vs r hv=>by
 refine hide λ_ Z=>?_;obtain ⟨v,rfl,h1⟩:=Zbn hv;simp only[VR]at h1;refine ad h1 λa us V ht hu=>?_;clear h1;subst V;have X:=G.X.keeps r.keep;obtain ⟨o,ho,hc,n,hd⟩:=id ht;apply Z;clear Z;have e:us.size=xs.length:=by refine Array.length_toList▸?_;exact hu.length
 have t1:Looks (model PW W0) s.heap (typeOf (.ref a)) (.ref 135):=by refine hc▸?_;exact (Looks.ld ho).andThen .now
 have t2:Looks (model PW W0) s.heap (isInstance (.ref a) (.type "tuple")) true:=t1.andThen (looks_mroIn X hm);have t3:=looks_findIn (M:=model PW W0) X hf;refine Calls.call_function_entry kind_len plain_len entry_len (args_len1 _) ?_;unfold Builtin.«len»;refine wB (m:=oneArg "len" _) (wP ?_);refine wB (m:=callSpecial? (.ref a) (PySem.Str.ofString "__len__")) ?_;delta callSpecial? specialOf;refine wB (wB (t1.here (t3.here (wpAny_holding ?_))));rw[show bindSpecial (Value.builtin "tuple.__len__") (.ref a)=pure (Value.builtin "tuple.__len__",[.ref a]) from (F.slot_tuple_len).bind _];refine wB (wP (wB (wpAny_call (codeAny_call_builtin (F.slot_tuple_len).plain F.entry_tuple_len (check_slot Zqg Znk t2 (F.args_tuple_len_1 _) ?_)))));show wpAny _ _ (do retInt (<-Builtin.Tuple.tupleItemsOf (.ref a)).size) _ _ s;refine wB (Zez ht ?_);refine wB (wpAny_mkInt (wP ?_));refine wP ?_;dsimp only;refine wB (wpAny_holding (wP ?_));refine wB (wpAny_letGo ?_);have hlt:=sizeLine_eq;show wpAny _ _ (if ((us.size:Nat):Int) < 0 then _ else _) _ _ _;rw[if_neg (by (exact F10 0x47372 0x1 rfl))];show wpAny _ _ (if ((us.size:Nat):Int)>=2 ^ 63 then _ else _) _ _ _;rw[if_neg (by lia)];exact wB (wpAny_mkInt (wP ⟨_,rfl,.int xs.length,hp,(r.toks _).toks _,.refl _,by rw[e];exact VR_int,h⟩))
end
section
variable {K:Frag}{M:Model}
theorem Zcb {sts:List Stmt}{Q:QX} (h:∀ K:AF->Loc->Hp->Prop,(∀ f m' hp',Q f m' hp'->K f m' hp')->EXs M A E B env sts m hp K):EXs M A E B env sts m hp Q:=h Q λ_ _ _ x=>x
theorem Zts {st:Stmt}{Q:QX} (h:∀ K:AF->Loc->Hp->Prop,(∀ f m' hp',Q f m' hp'->K f m' hp')->EX M A E B env st m hp K):EX M A E B env st m hp Q:=h Q λ_ _ _ x=>x
theorem Zdc {e:Expr}{Q:Bool->Hp->Prop} (h:∀ K:Bool->Hp->Prop,(∀ b hp',Q b hp'->K b hp')->TST M A E B env e m hp K):TST M A E B env e m hp Q:=h Q λ_ _ x=>x
theorem Zlp {k:Int}{v:Value} (h:Value.isInt k v=true):∃ t,v = .int k t:=by cases v <;> simp_all [Value.isInt]
theorem Zh2:∀ {kvs:List (Int × AV)}{i:Nat}{k:Int}{x:AV},(kvs.map (·.1)).Nodup->kvs[i]?=some (k,x)->dget kvs k=some x
 | [],_,_,_,_,h=>by nomatch h
 | (k',x') :: kvs,0,k,x,_,h=>by simp only[List.getElem?_cons_zero,Option.some.injEq,Prod.mk.injEq]at h;unfold dget;simp[h.1,h.2]
 | (k',x') :: kvs,i + 1,k,x,nd,h=>by simp only[List.getElem?_cons_succ]at h;simp only[List.map_cons,List.nodup_cons]at nd;have ih:=Zh2 nd.2 h;have hne:k'≠k:=λe=>nd.1 (by rw[e];exact List.mem_map.mpr ⟨(k,x),List.mem_of_getElem? h,rfl⟩);unfold dget at ih ⊢;rw[List.find?_cons_of_neg (by simpa using hne)];exact ih
noncomputable def Zes (d:Addr):Obj:={ cls:=.type "dict_items",data:=.fields #[.ref d] }
theorem viewOb_notImm {d:Addr}:¬ Imm (Zes d):=by rintro ⟨_,_,_,e⟩;cases e
theorem Zph {o:Expr} {apos pos}{pl:Sem Bool}{Q:QV} (G:Gnd K B)
  (h:EV (model PW W0) A E B env o m hp λl hp₁=>∃ d kvs,l = .ref d/\hp₁ d=some (.dict kvs)/\d≠env.locals/\∀ v,hp₁ v=none->v≠env.locals->Q (.ref v) (hp₁.set v (.obj (Zes d))))
  (hc:eval (.Call (.Attribute o (PySem.Str.ofString "items") apos) [] [] pos) env=(do
   let ov <-eval o env
   standAt apos.atName
   let (f,first) <-holding [ov] (getMethod ov (PySem.Str.ofString "items") pl)
   callWith pos f first (backTo pos (starEach [] env)) []):=by rfl) :
  EV (model PW W0) A E B env (.Call (.Attribute o (PySem.Str.ofString "items") apos) [] [] pos) m hp Q:=λs r=>by
 refine MethodCall_ (pl:=pl) (h.use r λu s₁ l hp₁ r₁ le₁ hu x=>?_) hc;refine hide λ_ Z=>?_;refine aq x λd kvs V hd hL q=>?_;clear x;subst V;simp only[VR]at hu;subst hu;refine aa (r₁.dict hd hL) λps hps hk=>?_;apply Z;clear Z;have hm:=hps PW W0;refine getMethod_builtin hm.typeIs F.plainAttrs_dict F.slot_dict_items F.type_dict_items hm.mapOf.noDict ?_;refine method_meetsIn F.slot_dict_items F.entry_dict_items rfl (PySem.evalArgs_none ⟨rfl,hm.typeIs,F.args_dict_items_1 _,_,meets_dict_items (intKind PW W0) d (r₁.notSys G (by rw[Hp.sn _ _ hL];exact hd)),⟨ps,hm⟩,?_⟩);have n:=r₁.newAt (Zes d) (.obj (Zes d)) ⟨Heap.get?_push_size _ rfl,viewOb_notImm⟩;exact mkV (av:=.ref _) n.1 (le₁.trans n.2.2.2) VR_ref (q _ n.2.1 n.2.2.1)

noncomputable abbrev itO (d:Addr) (n ep:Nat) (i:Nat) (ok ov:Value):Obj:={ cls:=.type "dict_itemiterator",data:=.fields #[.none,.bool false,.ref d,.int i 0,.int n 0,.int ep 0,ok,ov] }
theorem itO_no {d n ep i ok ov}:¬ Imm (itO d n ep i ok ov):=λi=>by obtain ⟨_,_,_,e⟩:=i;cases e
noncomputable abbrev Zqb (PW:Program) (W0:World) (A:Around) (B:Shared) (env:Env) (ta:Expr) (body:List Stmt) (m:Loc) (hp₁:Hp) (Q:QX) (d:Addr) (kvs:List (Int × AV)) (vw it:Addr) (od:Obj):Prop:=
 ∃ I:Nat->Loc->Hp->Prop,
   (∀ ob,I 0 m (((hp₁.set vw (.obj (Zes d))).set d (.obj od)).set it (.obj ob)))/\(∀ i m₂ hp₂ ob,I i m₂ hp₂->I i m₂ (hp₂.set it (.obj ob)))/\(∀ i m₂ hp₂,I i m₂ hp₂->hp₂ d=some (.obj od)) /\
   (∀ i k x m₂ hp₂ ob,kvs[i]?=some (k,x)->dget kvs k=some x->I i m₂ hp₂->hp₂ it=some (.obj ob)->ASG (model PW W0) A (λ_ _=>False) B env ta (.tup [.int k,x]) m₂ hp₂ λmX hpX=>EXs (model PW W0) A (λ_ _=>False) B env body mX hpX λfl mj hpj=>
    (fl = .next\/fl = .cont)/\I (i + 1) mj hpj/\hpj it=some (.obj ob)) /\
   (∀ m₂ hp₂,I kvs.length m₂ hp₂->Q .next m₂ ((hp₂.set d (.dict kvs)).del it))
noncomputable abbrev Zto (PW:Program) (W0:World) (A:Around) (B:Shared) (env:Env) (ta:Expr) (body:List Stmt) (m:Loc) (Q:QX) (vv:AV) (hp₂:Hp):Prop:=
 ∃ d kvs hp₁ vw,vv = .ref vw/\hp₁ d=some (.dict kvs)/\d≠env.locals/\hp₁ vw=none/\vw≠env.locals/\hp₂=hp₁.set vw (.obj (Zes d))/\∀ it od,hp₁ it=none->it≠env.locals->it≠d->it≠vw->Zqb PW W0 A B env ta body m hp₁ Q d kvs vw it od

theorem IDict.two {h:Heap}{d:Addr}{ps:List (Int × Value)}{ep:Nat}{od:Obj} (hod:h.get? d=some od) (hid:IDict h d ps) (hat:h.DictAt (intKind PW W0) d ps ep) {h':Heap} (e:h'.get? d=some od):h'.DictAt (intKind PW W0) d ps ep/\IDict h' d ps:=by
 refine hide λ_ Z=>?_;refine am hat λo1 es1 ho1 hr1=>?_
 refine aM hid λo2 es2 ep2 ho2 hr2=>?_;apply Z;clear Z;rw[hod]at ho1 ho2;cases ho1;cases ho2;exact ⟨⟨od,es1,e,hr1⟩,⟨od,es2,ep2,e,hr2⟩⟩
theorem Zjn {d it:Addr}{ps:List (Int × Value)}{ep i:Nat}{k:Int}{x:AV}{ok ov v:Value} {hp₂:Hp} {m₂:Loc}{s':Shared}{elts:List Expr} {tk tpos} (r':Rel B (hp₂.set env.locals (.ns m₂)) s') (hiL:it≠env.locals)
  (hit:hp₂ it=some (.obj (itO d ps.length ep i ok ov))) (hat:s'.heap.DictAt (intKind PW W0) d ps ep) (hpv:ps[i]?=some (k,v)) (hv:VR s'.heap x v) (E':ET) (W:Option Value->Shared->Prop)
  (hW:∀ v s₁,(∀ U:Unit->Shared->Prop,(∀ sV hp',VR sV.heap (.tup [.int k,x]) v->Rel B (hp'.set env.locals (.ns m₂)) sV->ImmLe s'.heap sV.heap->(∃ ob,hp'=hp₂.set it (.obj ob)/\∃ ok ov,ob=itO d ps.length ep (i + 1) ok ov)->U () sV)->wpAny (model PW W0) A (letOwnedTupleGo (.Tuple elts tk tpos) (.ref it) v) U E' s₁)->W (some v) s₁) :
  wpAny (model PW W0) A (pyNext (.ref it)) W E' s':=by
 have hit3:=(r'.at hit hiL).1;refine wpAny_pyNext_items_item hit3 hat hpv λkey h₁ hkey heo ht₁ hz₁ hk₁=>hW _ _ λU hU=>wpAny_letOwnedTupleGo_items heo λhV heV hsV=>?_;obtain ⟨tk',rfl⟩:=Zlp hkey;have kp:∀ b ob,b≠it->s'.heap.get? b=some ob->hV.get? b=some ob:=λb ob hb e=>(hsV.2 b hb).trans (hk₁ b ob hb e);have leB:ImmLe s'.heap hV:=λb ob e im=>kp b ob (λhb=>itO_no (by rw[hb,hit3]at e;cases e;exact im)) e;have htup:hV.get? s'.heap.objs.size=some { cls:=.type "tuple",data:=.seq #[.int k tk',v] }:=(hsV.2 _ (Nat.ne_of_gt (Heap.lt_size hit3))).trans ht₁;have hlow:=(r'.objs it _ (by rw[Hp.sn _ _ hiL];exact hit)).1;refine hU _ (hp₂.set it (.obj (itO d ps.length ep (i + 1) (.int k tk') v))) ?_ ⟨λb ob e=>kp b ob (λhb=>?_) (r'.keep b ob e),λa o' e=>?_,r'.os,r'.bare,?_⟩ leB ⟨_,rfl,_,_,rfl⟩
 .simp only [VR,VRs];exact ⟨_,#[.int k tk',v],rfl,⟨_,htup,rfl,0,rfl⟩,_,_,rfl,⟨_,rfl⟩,_,_,rfl,hv.mono leB,rfl⟩
 .subst hb;exact absurd (Heap.lt_size e) (Nat.not_lt.mpr hlow)
 .by_cases ha:a=it
  .subst ha;rw[Hp.sn _ _ hiL,Hp.ss]at e;cases e;exact ⟨hlow,heV,itO_no⟩
  .have e':(hp₂.set env.locals (.ns m₂)) a=some o':=by rw[Hp.sc _ _ _ hiL,Hp.sn _ _ ha]at e;exact e
   exact ⟨(r'.objs a o' e').1,(r'.objs a o' e').2.here leB λo'' e''=>kp _ _ ha e''⟩
 .show _<=hV.objs.size;rw[hsV.1,hz₁];exact Nat.le_trans r'.size (Nat.le_succ _)
theorem Rel.exact {s:Shared}{d:Addr}{o:AO}{od:Obj} (r:Rel B (hp.set env.locals (.ns m)) s) (hd:hp d=some o) (hL:d≠env.locals) (hod:s.heap.get? d=some od) (hi:¬ Imm od):Rel B ((hp.set d (.obj od)).set env.locals (.ns m)) s:=
 ⟨r.keep,λa o' e=>by
  rw[Hp.sc _ _ _ hL]at e;by_cases h2:a=d
  .subst h2;rw[Hp.ss]at e;cases e;exact ⟨(r.objs a _ (by rw[Hp.sn _ _ hL];exact hd)).1,hod,hi⟩
  .rw [Hp.sn _ _ h2]at e;exact r.objs _ _ e,r.os,r.bare,r.size⟩
theorem Rel.back {s:Shared}{d:Addr}{o o':AO} (r:Rel B (hp.set env.locals (.ns m)) s) (hd:hp d=some o') (hL:d≠env.locals) (ho:OR s.heap d o):Rel B ((hp.set d o).set env.locals (.ns m)) s:=
 ⟨r.keep,λa o' e=>by
  rw[Hp.sc _ _ _ hL]at e;by_cases h2:a=d
  .subst h2;rw[Hp.ss]at e;cases e;exact ⟨(r.objs a _ (by rw[Hp.sn _ _ hL];exact hd)).1,ho⟩
  .rw [Hp.sn _ _ h2]at e;exact r.objs _ _ e,r.os,r.bare,r.size⟩
structure DEx (PW:Program) (W0:World) (h:Heap) (d:Addr) (kvs:List (Int × AV)) (ps:List (Int × Value)) (ep:Nat) (od:Obj):Prop where
 hod:h.get? d=some od
 no:¬ Imm od
 hat:h.DictAt (intKind PW W0) d ps ep
 hid:IDict h d ps
 kv:KVR h kvs ps
 nd:(kvs.map (·.1)).Nodup
theorem Rel.dex {s:Shared}{d:Addr}{kvs:List (Int × AV)} (r:Rel B (hp.set env.locals (.ns m)) s) (hd:hp d=some (.dict kvs)) (hL:d≠env.locals):∃ ps ep od,DEx PW W0 s.heap d kvs ps ep od:=by refine hide λ_ Z=>?_;refine ae (r.at hd hL) λps hid hk1 hk2=>?_;obtain ⟨ep,hat⟩:=(hid.dictOf PW W0).dictAt;obtain ⟨od,es,_,hod,_,hdd,_,_,nd⟩:=id hid;apply Z;clear Z;exact ⟨ps,ep,od,hod,λi=>(by obtain ⟨_,_,_,e⟩:=i;rw[hdd]at e;cases e),hat,hid,⟨hk1,hk2⟩,by refine hk1▸?_;exact nd⟩
theorem DEx.later {h h':Heap}{d:Addr}{kvs:List (Int × AV)}{ps:List (Int × Value)}{ep:Nat}{od:Obj} (D:DEx PW W0 h d kvs ps ep od) (e:h'.get? d=some od):h'.DictAt (intKind PW W0) d ps ep/\IDict h' d ps:=IDict.two D.hod D.hid D.hat e
theorem DEx.at {h:Heap}{d:Addr}{kvs:List (Int × AV)}{ps:List (Int × Value)}{ep:Nat}{od:Obj} (D:DEx PW W0 h d kvs ps ep od) {i:Nat} (hi:i < kvs.length):∃ k x v,kvs[i]?=some (k,x)/\ps[i]?=some (k,v)/\dget kvs k=some x/\VR h x v:=by
 refine hide λ_ Z=>?_;obtain ⟨⟨k,x⟩,hkx⟩:∃ y,kvs[i]?=some y:=⟨_,List.getElem?_eq_getElem hi⟩;obtain ⟨⟨k',v⟩,hpv⟩:∃ y,ps[i]?=some y:=⟨_,List.getElem?_eq_getElem (D.kv.length ▸ hi)⟩;have ek:k'=k:=by have a:=congrArg (λl=>l[i]?) D.kv.1;simp only[List.getElem?_map,hkx,hpv,Option.map_some,Option.some.injEq]at a;exact a
 subst ek;apply Z;clear Z;refine ⟨k',x,v,hkx,hpv,Zh2 D.nd hkx,?_⟩;refine hide λ_ Z=>?_;refine aa (D.kv.2.get (i:=i) (x:=x) (by rw[List.getElem?_map,hkx];rfl)) λv' e hv=>?_;apply Z;clear Z;rw[List.getElem?_map,hpv]at e;cases e;exact hv
theorem Hp.del_set (hp:Hp) {a b:Addr} (o:AO) (h:a≠b):(hp.set a o).del b=(hp.del b).set a o:=by
 funext c;simp only[Hp.set,Hp.del];by_cases h1:c=b
 .subst h1;simp[Ne.symm h]
 .simp [h1]
theorem Zig {elts:List Expr} {tk tpos}{o:Expr}{body:List Stmt} {apos cpos pos}{pl:Sem Bool}{Q:QX} (G:Gnd K B) (hh:A.handled=none)
  (h:EV (model PW W0) A E B env o m hp λv hp₁=>∃ d kvs,v = .ref d/\hp₁ d=some (.dict kvs)/\d≠env.locals/\∀ vw it od,hp₁ vw=none->vw≠env.locals->vw≠d->hp₁ it=none->it≠env.locals->it≠d->it≠vw->Zqb PW W0 A B env (.Tuple elts tk tpos) body m hp₁ Q d kvs vw it od)
  (hc:eval (.Call (.Attribute o (PySem.Str.ofString "items") apos) [] [] cpos) env=(do
   let ov <-eval o env
   standAt apos.atName
   let (f,first) <-holding [ov] (getMethod ov (PySem.Str.ofString "items") pl)
   callWith cpos f first (backTo cpos (starEach [] env)) []):=by rfl)
  (hs:∀ x,foldedSetIterable (.Call (.Attribute o (PySem.Str.ofString "items") apos) [] [] cpos) env x=pure x:=by intro _;rfl) :
  EX (model PW W0) A E B env (.For (.Tuple elts tk tpos) (.Call (.Attribute o (PySem.Str.ofString "items") apos) [] [] cpos) body [] pos) m hp Q:=λs r=>by
 refine wpAny_For ((Zph (Q:=Zto PW W0 A B env (.Tuple elts tk tpos) body m Q) G (h.mono λv hp₁ x=>by
  refine hide λ_ Z=>?_;refine aq x λd kvs e1 e2 e3 q=>?_;apply Z;clear Z
  exact ⟨d,kvs,e1,e2,e3,λvw hv hvL=>⟨d,kvs,hp₁,vw,rfl,e2,e3,hv,hvL,rfl,λit od h1 h2 h3 h4=>q vw it od hv hvL (λe=>by rw[e,e2]at hv;cases hv) h1 h2 h3 h4⟩⟩) hc).use r λu s₁ vv hp₂ r₁ le₁ hu x=>?_) hs
 refine hide λ_ Z=>?_;refine aS x λd kvs hp₁ vw V hd hL hvw hvL ah q=>?_;clear x;subst V;subst ah;simp only[VR]at hu;subst hu;have hvd:vw≠d:=λe=>by rw[e,hd]at hvw;cases hvw
 have hd2:(hp₁.set vw (.obj (Zes d))) d=some (.dict kvs):=by rw[Hp.sn _ _ (Ne.symm hvd)];exact hd
 refine aT (r₁.dex hd2 hL) λps ep od D=>?_;apply Z;clear Z;refine wpAny_pyIter_items (knd:=intKind PW W0) (d:=d) (kvs:=ps) (ep:=ep) ⟨_,(r₁.at (Hp.ss ..) hvL).1,rfl,rfl⟩ D.hat ?_;refine hide λ_ Z=>?_;refine ak ((r₁.exact hd2 hL D.hod D.no).newAt (itO d ps.length ep 0 .none .none) (.obj (itO d ps.length ep 0 .none .none)) ⟨Heap.get?_push_size _ rfl,itO_no⟩) λrel1 hit hiL le2=>?_;have hitd:s₁.heap.objs.size≠d:=λe=>by rw[e,Hp.ss]at hit;cases hit
 have hitv:s₁.heap.objs.size≠vw:=λe=>by rw[e,Hp.sn _ _ hvd,Hp.ss]at hit;cases hit
 have hit1:hp₁ s₁.heap.objs.size=none:=by rw[Hp.sn _ _ hitd,Hp.sn _ _ hitv]at hit;exact hit
 generalize s₁.heap.objs.size=it at *;refine aI (q it od hit1 hiL hitd hitv) λI i0 iset idd iturn ifin=>?_;apply Z;clear Z;refine Ztr (n:=kvs.length) (el:=λi=>.tup [.int (kvs.getD i (0,.none)).1,(kvs.getD i (0,.none)).2]) (s₀:=s₁) (J:=λi m₂ hp₂=>I i m₂ hp₂/\∃ ob,hp₂ it=some (.obj ob)/\∃ ok ov,ob=itO d ps.length ep i ok ov) (J':=λi m₂ hp₂=>I i m₂ hp₂/\∃ ob,hp₂ it=some (.obj ob)/\∃ ok ov,ob=itO d ps.length ep (i + 1) ok ov) (Q:=Q) (λi m₂ hp₂ s' hi hJ r' le E' W hW=>?_) (λm₂ hp₂ s' hJ r' le E' W hW=>?_) (λi m₂ hp₂ hi hJ=>?_) (λfl af m' hp' s' r' le' hf q=>mkX (af:=af) r' (le₁.trans le') hf q) ⟨i0 _,_,Hp.ss ..,_,_,rfl⟩ rel1 le2
 .refine hide λ_ Z=>?_;obtain ⟨hI,ob,hob,ok,ov,rfl⟩:=hJ;refine aw (D.at hi) λk x v e1 e2 e3 hv=>?_;apply Z;clear Z;refine Zjn (x:=x) r' hiL hob (D.later (r'.at (idd _ _ _ hI) hL).1).1 e2 (hv.mono le) E' W λv s₁ k=>hW v s₁ λU hU=>k U λsV hp' hv rV leV ho=>?_;refine hide λ_ Z=>?_;obtain ⟨ob,rfl,ho⟩:=ho;apply Z;clear Z;exact hU sV _ (by refine (List.getD_eq_getElem?_getD)▸e1▸?_;exact hv) rV leV ⟨iset _ _ _ _ hI,ob,Hp.ss ..,ho⟩
 .refine hide λ_ Z=>?_;obtain ⟨hI,ob,hob,ok,ov,rfl⟩:=hJ;apply Z;clear Z;have O:=r'.at (idd _ _ _ hI) hL;refine wpAny_pyNext_items_end hh (r'.at hob hiL).1 (D.later O.1).1 (by rw[List.getElem?_eq_none];exact Nat.le_of_eq D.kv.length) λh'' hx=>?_;refine hide λ_ Z=>?_;obtain ⟨r'',le''⟩:=r'.drop hob hiL hx s'.toks;apply Z;clear Z;have hd3:hp₂.del it d=some (.obj od):=by rw[Hp.del_ne _ (Ne.symm hitd)];exact idd _ _ _ hI
  refine hW _ _ (r''.back (o:=.dict kvs) hd3 hL ⟨ps,(D.later (r''.at hd3 hL).1).2,D.kv.1,D.kv.2.mono (le.trans le'')⟩) le'' ?_;rw[<-Hp.del_set _ _ (Ne.symm hitd)];exact ifin _ _ hI
 .refine hide λ_ Z=>?_;obtain ⟨hI,ob,hob,_,_,rfl⟩:=hJ;apply Z;clear Z;refine (iturn i _ _ m₂ hp₂ _ (by refine (List.getD_eq_getElem?_getD)▸(List.getElem?_eq_getElem hi)▸?_;rfl) (Zh2 D.nd (by rw[List.getD_eq_getElem?_getD,List.getElem?_eq_getElem hi];rfl)) hI hob).mono λmX hpX x=>x.mono λfl mj hpj y=>?_;refine hide λ_ Z=>?_;refine au y λhf y1 y2=>?_;apply Z;clear Z;rcases hf with rfl | rfl <;> exact ⟨y1,_,y2,_,_,rfl⟩
end
theorem Ze4:entryFor table "set.__iter__" = some Builtin.«frozenset.__iter__»:=
 entryFor_alias (id' := "frozenset.__iter__") (by kernel_rfl) rfl (by decide +kernel) (by kernel_rfl)
theorem slot_si_next:Slot "set_iterator" "__next__" "set_iterator.__next__" :=
 .of (owner := "set_iterator") (n := "__next__") (by rw[typeLookup_type,builtinLookup_eq_fast];kernel_rfl) (by decide +kernel) (by decide +kernel) (by decide +kernel)
  (by exact .inl (by decide +kernel)) (by rw[isSubtype_type];kernel_rfl)
theorem Zfz:entryFor table "set_iterator.__next__" = some Builtin.«set_iterator.__next__»:=entryFor_of_tree (by kernel_rfl)
theorem Zhd (a:Value):argsOk "set_iterator.__next__" ⟨[a],[]⟩:=by unfold argsOk;kernel_rfl
section
variable {K:Frag}
theorem Zdb {s:Shared}{Q:Bool->Shared->Prop} (h:Q (W0.params.followText "set-order") s):wpAny (model PW W0) A setsByText Q E s:=by unfold setsByText;exact wB (wpAny_askSetting (wP h))
end
section
variable {K:Frag}
noncomputable def Other (B:Shared) (hp:Hp) (L:Addr) (a:Addr) (v:AV):Prop:=v = .none\/(∃ x,v = .str x)\/∃ b xs ys,v = .ref b/\Lst B hp L b ys/\Lst B hp L a xs/\a≠b
theorem Zjx {a:Addr}{v:AV}{Q:QV} (ho:Other B hp env.locals a v) (h:Q (.bool false) hp):OP2 (model PW W0) A E B env (compareOp .Is) m (.ref a) v hp Q:=by
 rcases ho with rfl | ⟨x,rfl⟩ | ⟨b,xs,ys,rfl,hb,ha,hne⟩
 .exact Zdp h
 .intro s u v r hu hv;simp only[VR]at hu hv;subst hu;obtain ⟨t,rfl⟩:=hv;show wpAny _ _ (do return Value.bool (<-isSame (.ref a) (.str x t))) _ _ _;exact wB (wP (wP (mkV (av:=.bool false) r (.refl _) VR_bool h)))
 .refine Zjc (λs r=>?_) (λs r=>?_) (by rw[show (a == b)=false from by simpa using hne];exact h)
  .obtain ⟨us,⟨o,ho,hc,_⟩,_⟩:=r.lst ha;exact ⟨o,ho,hc⟩
  .obtain ⟨us,⟨o,ho,hc,_⟩,_⟩:=r.lst hb;exact ⟨o,ho,hc⟩
theorem Zmr {a:Addr}{xs:List AV}{Q:QV} (ha:Lst B hp env.locals a xs) (h:Q (.bool true) hp):OP2 (model PW W0) A E B env (compareOp .Is) m (.ref a) (.ref a) hp Q:=by
 refine Zjc (λs r=>?_) (λs r=>?_) (by rw[beq_self_eq_true];exact h)
 .obtain ⟨us,⟨o,ho,hc,_⟩,_⟩:=r.lst ha;exact ⟨o,ho,hc⟩
 .obtain ⟨us,⟨o,ho,hc,_⟩,_⟩:=r.lst ha;exact ⟨o,ho,hc⟩
theorem Zrv {x:PySem.Str}{Q:QV} (hx:x.length < 1000) (h:Q (.int x.length) hp):CL (model PW W0) A E B env (.builtin "len") m [.str x] hp Q:=λs vs r hv=>by obtain ⟨v,rfl,h1⟩:=Zbn hv;simp only[VR]at h1;obtain ⟨t,rfl⟩:=h1;exact PySem.P.len_str (by lia) ⟨.int x.length,hp,(r.toks _).toks _,.refl _,VR_int,h⟩
theorem Zhl {target func xe:Expr}{body:List Stmt} {cpos pos}{Q:QX} (hh:A.handled=none)
  (h:EV (model PW W0) A E B env func m hp λf hp₁=>f = .ty "enumerate" /\ EVS (model PW W0) A E B env [xe] m hp₁ λvs hp₂=>vs=[.str (PySem.Str.ofString "")]/\Q .next m hp₂)
  (hc:eval (.Call func [xe] [] cpos) env=(do callWith cpos (<-eval func env) [] (backTo cpos (starEach [xe] env)) (backToKw cpos (keywordEach [] env))):=by rfl)
  (he:starEach [xe] env=[(false,eval xe env)]:=by rfl)
  (hs:∀ x,foldedSetIterable (.Call func [xe] [] cpos) env x=pure x:=by intro _;rfl) :
  EX (model PW W0) A E B env (.For target (.Call func [xe] [] cpos) body [] pos) m hp Q:=λs r=>by
 refine wpAny_For (Call_ (h.use r λu s₁ f hp₁ r₁ le₁ hu yq=>?_) hc) hs;obtain ⟨hf,q⟩:=yq;subst hf;simp only[VR]at hu;subst hu;refine PyProof.Rows.callWith_type1 (Zcr (q cpos s₁ r₁) λvs sV avs hp₂ rV leV hv q=>?_) he rfl;obtain ⟨rfl,q⟩:=q;obtain ⟨v,rfl,h1⟩:=Zbn hv;simp only[VR]at h1;obtain ⟨t,rfl⟩:=h1;refine call_enumerate_str λh' hen hit hz hk=>?_;refine wpAny_pyIter_enum (s:={ sV with heap:=h' }) hen ?_;refine codeAny_forLoop_any (λ_ s'=>s'={ sV with heap:=h' }) (λn s' e=>?_) 0 rfl;subst e;rw[show strIterType (PySem.Str.ofString "") = "str_ascii_iterator" from by kernel_rfl]at hit;refine wpAny_pyNext_enum_endD (St:=λi h=>h.IsStrIter sV.heap.objs.size "str_ascii_iterator" (PySem.Str.ofString "") t i) (n:=(PySem.Str.ofString "").cps.size) (Draws.strAscii (A:=A.in1) hh _ (PySem.Str.ofString "") t) hen (show h'.IsStrIter _ "str_ascii_iterator" (PySem.Str.ofString "") t (PySem.Str.ofString "").cps.size from hit) λh'' hx=>?_;have hk':∀ b o,sV.heap.get? b=some o->h''.get? b=some o:=λb o e=>hx b o (Nat.ne_of_lt (Heap.lt_size e)) (hk b o e);have g:=rV.grown hk' sV.toks;exact wpAny_execs_nil ⟨.next,m,hp₂,g.1,(le₁.trans leV).trans g.2,rfl,q⟩
end
noncomputable abbrev KW (W0:World):Frag:=KP PW W0.params
noncomputable abbrev mS (i:Nat):Stmt:=inS (topS PW 5) i
noncomputable abbrev fdS (i:Nat) (name:String) (dflt:Value) (tok code:Nat):FuncData:=fnD (mS i) (S name) dflt .none tok (.str (S "cpy313.difflib") 194) none (.ref code) .none []
noncomputable def Zl0:FuncData:=fdS 1 "SequenceMatcher.__init__" (.ref 153) 416 159
noncomputable def Zg6:FuncData:=fdS 2 "SequenceMatcher.set_seqs" .none 426 166
noncomputable def Ztd:FuncData:=fdS 3 "SequenceMatcher.set_seq1" .none 435 173
noncomputable def Zp5:FuncData:=fdS 4 "SequenceMatcher.set_seq2" .none 444 180
noncomputable def Zco:FuncData:=fdS 5 "SequenceMatcher.__chain_b" .none 0 187
noncomputable def Zdm:FuncData:=fdS 6 "SequenceMatcher.find_longest_match" (.ref 189) 490 195
noncomputable def fdMB:FuncData:=fdS 7 "SequenceMatcher.get_matching_blocks" .none 517 202
noncomputable def Zdx:FuncData:=fdS 8 "SequenceMatcher.get_opcodes" .none 532 209
noncomputable def Zbu:FuncData:=fdS 9 "SequenceMatcher.get_grouped_opcodes" (.ref 211) 550 217
theorem Zui (W0:World):(KW W0).lookup 160=some ⟨.type "function",none,.func Zl0,#[]⟩:=rfl
theorem Zs0 (W0:World):(KW W0).lookup 167=some ⟨.type "function",none,.func Zg6,#[]⟩:=rfl
theorem Zs2 (W0:World):(KW W0).lookup 174=some ⟨.type "function",none,.func Ztd,#[]⟩:=rfl
theorem Zs1 (W0:World):(KW W0).lookup 181=some ⟨.type "function",none,.func Zp5,#[]⟩:=rfl
theorem Zs4 (W0:World):(KW W0).lookup 188=some ⟨.type "function",none,.func Zco,#[]⟩:=rfl
theorem kFlm (W0:World):(KW W0).lookup 196=some ⟨.type "function",none,.func Zdm,#[]⟩:=rfl
theorem kMB (W0:World):(KW W0).lookup 203=some ⟨.type "function",none,.func fdMB,#[]⟩:=rfl
theorem Zp2 (W0:World):(KW W0).lookup 210=some ⟨.type "function",none,.func Zdx,#[]⟩:=rfl
theorem kGrp (W0:World):(KW W0).lookup 218=some ⟨.type "function",none,.func Zbu,#[]⟩:=rfl
theorem clsS (W0:World):Cls (KW W0) 242:=⟨by kernel_rfl,by kernel_rfl,by kernel_rfl,by kernel_rfl,by kernel_rfl⟩
theorem Zsn (W0:World):makesIn (KW W0) 242=true:=by kernel_rfl
theorem Zk1 (W0:World):attrNames.all (λn=>findIn (KW W0) (.ref 242) n == some none && takerIn (KW W0) 242 n == some none)=true:=by kernel_rfl
theorem Zsg (W0:World) {n:PySem.Str} (h:n ∈ attrNames):findIn (KW W0) (.ref 242) n=some none:=by have:=List.all_eq_true.mp (Zk1 W0) n h;rw[Bool.and_eq_true]at this;exact eq_of_beq this.1
theorem Zqt (W0:World) {n:PySem.Str} (h:n ∈ attrNames):takerIn (KW W0) 242 n=some none:=by have:=List.all_eq_true.mp (Zk1 W0) n h;rw[Bool.and_eq_true]at this;exact eq_of_beq this.2
theorem Zmi:bootBuiltins (PySem.Str.ofString "set")=some (.type "set"):=by boot_fast
theorem Zi7:bootBuiltins (PySem.Str.ofString "enumerate")=some (.type "enumerate"):=by boot_fast
theorem Zb9:bootBuiltins (PySem.Str.ofString "len")=some (.builtin "len"):=by boot_fast
theorem Zmj:bootBuiltins (PySem.Str.ofString "range")=some (.type "range"):=by boot_fast
theorem Zd1:bootBuiltins (PySem.Str.ofString "max")=some (.builtin "max"):=by boot_fast
theorem Ze1:bootBuiltins (PySem.Str.ofString "min")=some (.builtin "min"):=by boot_fast
theorem Zpy (W0:World):nsIn (KW W0) mainGlobals (S "set")=some none:=by kernel_rfl
theorem Zk0 (W0:World):nsIn (KW W0) mainGlobals (S "enumerate")=some none:=by kernel_rfl
theorem Zct (W0:World):nsIn (KW W0) mainGlobals (S "len")=some none:=by kernel_rfl
theorem Zn8 (W0:World):nsIn (KW W0) mainGlobals (S "range")=some none:=by kernel_rfl
theorem Zfc (W0:World):nsIn (KW W0) mainGlobals (S "max")=some none:=by kernel_rfl
theorem Zgq (W0:World):nsIn (KW W0) mainGlobals (S "min")=some none:=by kernel_rfl
theorem g_SM (W0:World):nsIn (KW W0) mainGlobals (S "SequenceMatcher")=some (some (.ref 242)):=by kernel_rfl
theorem Zlv (W0:World):nsIn (KW W0) mainGlobals (S "Match")=some (some (.ref 135)):=by kernel_rfl
noncomputable def Zao:FuncData:=fnD (topS PW 7) (S "_law_trimmed") .none .none 0 (.str (S "law_dm0058_01") 592) none (.ref 250) .none []
theorem Zel (W0:World):(KW W0).lookup 251=some ⟨.type "function",none,.func Zao,#[]⟩:=rfl
theorem Zg4 (W0:World):nsIn (KW W0) mainGlobals (S "_law_trimmed")=some (some (.ref 251)):=by kernel_rfl
noncomputable def fdLaw:FuncData:=fnD (topS PW 8) (S "law") .none .none 0 (.str (S "law_dm0058_01") 592) none (.ref 257) .none []
theorem kLaw (W0:World):(KW W0).lookup 258=some ⟨.type "function",none,.func fdLaw,#[]⟩:=rfl
noncomputable def Zte:FuncData:=fnD (inS (topS PW 3) 4) (S "Match.__new__") .none .none 283 (.str (S "cpy313.difflib") 194) none (.ref 81) .none []
theorem Zuh (W0:World):(KW W0).lookup 82=some ⟨.type "function",none,.func Zte,#[]⟩:=rfl
noncomputable def Zq6:FuncData:=fnD (inS (topS PW 3) 5) (S "Match._make") .none .none 293 (.str (S "cpy313.difflib") 194) (some 92) (.ref 88) .none []
theorem Zs3 (W0:World):(KW W0).lookup 89=some ⟨.type "function",none,.func Zq6,#[]⟩:=rfl
theorem Zeo:bootBuiltins (PySem.Str.ofString "list")=some (.type "list"):=by boot_fast
theorem Zfr (W0:World):nsIn (KW W0) mainGlobals (S "list")=some none:=by kernel_rfl
theorem Zrf:bootBuiltins (PySem.Str.ofString "map")=some (.type "map"):=by boot_fast
theorem Zse (W0:World):nsIn (KW W0) mainGlobals (S "map")=some none:=by kernel_rfl
theorem Zhc:bootBuiltins (PySem.Str.ofString "tuple")=some (.type "tuple"):=by boot_fast
theorem Zis (W0:World):nsIn (KW W0) mainGlobals (S "tuple")=some none:=by kernel_rfl
theorem Zfe:bootBuiltins (PySem.Str.ofString "divmod")=some (.builtin "divmod"):=by boot_fast
theorem Zgr (W0:World):nsIn (KW W0) mainGlobals (S "divmod")=some none:=by kernel_rfl
theorem Zrg:bootBuiltins (PySem.Str.ofString "abs")=some (.builtin "abs"):=by boot_fast
theorem Zsf (W0:World):nsIn (KW W0) mainGlobals (S "abs")=some none:=by kernel_rfl
theorem Zhe {h:Heap}{a b c:AV}{vs:List Value} (x:VRs h [a,b,c] vs):∃ u v W0,vs=[u,v,W0]/\VR h a u/\VR h b v/\VR h c W0:=by simp only[VRs]at x;refine ad x λv r V h1 ah=>?_;clear x;subst V;refine ad ah λu r' aB h2 ar=>?_;clear ah;subst aB;refine ad ar λz r'' aG h3 aF=>?_;clear ar;subst aG;subst aF;exact ⟨_,_,_,rfl,h1,h2,h3⟩
theorem Zo6 {h:Heap}{a b c d:AV}{vs:List Value} (x:VRs h [a,b,c,d] vs):∃ u v W0 z,vs=[u,v,W0,z]/\VR h a u/\VR h b v/\VR h c W0/\VR h d z:=by simp only[VRs]at x;refine ad x λv r V h1 ah=>?_;clear x;subst V;refine ad ah λu r' aB h2 ar=>?_;clear ah;subst aB;refine ad ar λz r'' aG h3 aF=>?_;clear ar;subst aG;refine ad aF λy r''' aV h4 aW=>?_;clear aF;subst aV;subst aW;exact ⟨_,_,_,_,rfl,h1,h2,h3,h4⟩
section
theorem Zbc {x dx:Addr}{ma:Loc}{name:PySem.Str}{u:AV} {p1 p2:Pos}{Q:QV} (G:Gnd (KW W0) B) (hm:m (S "self")=some (.ref x)) (I:Ins hp env.locals x dx 242 ma) (ha:ma name=some u) (h:Q u hp) (hin:name ∈ attrNames:=by decide) (hu:∀ n,u≠.bi n:=by intro _ e;cases e)
  (hk:env.scope.kind = .function:=by rfl) (hl:env.kindOf (S "self")=some .local:=by rfl):EV (model PW W0) A E B env (.Attribute (.Name (S "self") p1) name p2) m hp Q:=
 Zrt G (clsS W0) (Zsg W0 hin) (Zaa hm ⟨x,dx,ma,u,rfl,I,ha,hu,h⟩ hk hl)
theorem Za6 {x dx:Addr}{ma:Loc}{name:PySem.Str}{u:AV} {p1 p2:Pos}{Q:Loc->Hp->Prop} (G:Gnd (KW W0) B) (hm:m (S "self")=some (.ref x)) (I:Ins hp env.locals x dx 242 ma) (h:Q m (hp.set dx (.atr (upd ma name u)))) (hin:name ∈ attrNames:=by decide)
  (hk:env.scope.kind = .function:=by rfl) (hl:env.kindOf (S "self")=some .local:=by rfl):ASG (model PW W0) A E B env (.Attribute (.Name (S "self") p1) name p2) u m hp Q:=
 Zpu G (clsS W0) (Zqt W0 hin) hin (Zaa hm ⟨x,dx,ma,rfl,I,h⟩ hk hl)
end
noncomputable def Hp.cut (hp:Hp) (L1 L2:Addr):Hp:=λz=>if z=L1\/z=L2 then none else hp z
theorem Hp.cut_eq {hp:Hp} {L1 L2 z:Addr} (h1:z≠L1) (h2:z≠L2):hp.cut L1 L2 z=hp z:=by simp[Hp.cut,h1,h2]
theorem Zcs {env:Env}{m:Loc}{L:Addr}{Q:QV}{fl:AF}{m':Loc}{hp':Hp} (hl:hp' env.locals=some (.ns m)) (q:Q (Zfq fl) (hp'.cut env.locals L)):RET L env m Q fl m' hp':=by
 refine ⟨hp'.cut env.locals L,λz o hz=>?_,by simp[Hp.cut],q⟩;by_cases h1:z=env.locals
 .subst h1;rw[Hp.ss]at hz;rw[hl];exact hz
 .rw [Hp.sn _ _ h1]at hz;by_cases h2:z=L
  .simp [Hp.cut,h2]at hz
  .rw [Hp.cut_eq h1 h2]at hz;exact hz
noncomputable def idxN (bs:List Int) (k:Int):List Nat:=(List.range bs.length).filter (λi=>bs[i]? == some k)
noncomputable def idxs (bs:List Int) (k:Int):List AV:=(idxN bs k).map λ(i:Nat)=>AV.int (i:Int)
theorem Zcu (bs:List Int) (x k:Int):idxN (bs ++ [x]) k=idxN bs k ++ (if x=k then [bs.length] else []):=by
 unfold idxN;rw[List.length_append,List.length_singleton,List.range_succ,List.filter_append];congr 1
 .apply List.filter_congr;intro i hi;rw[List.mem_range]at hi;rw[List.getElem?_append_left hi]
 .by_cases h:x=k
  .simp [h]
  .simp [h]
theorem idxs_snoc (bs:List Int) (x k:Int):idxs (bs ++ [x]) k=idxs bs k ++ (if x=k then [.int bs.length] else []):=by unfold idxs;rw[Zcu,List.map_append];split <;> rfl
theorem Zfy (bs:List Int) (k:Int):(idxN bs k).length<=bs.length:=by unfold idxN;exact Nat.le_trans (List.length_filter_le _ _) (by simp)
structure B2J (hb hp:Hp) (L d:Addr) (kvs:List (Int × AV)) (bs:List Int):Prop where
 di:hp d=some (.dict kvs)
 dL:d≠L
 no:∀ k,dget kvs k=none->idxN bs k=[]
 yes:∀ k v,dget kvs k=some v->∃ a,v = .ref a/\hp a=some (.list (idxs bs k))/\a≠L/\hb a=none
 inj:∀ k k' a,dget kvs k=some (.ref a)->dget kvs k'=some (.ref a)->k=k'
 len:kvs.length<=bs.length
 nd:(kvs.map (·.1)).Nodup
 ne:∀ k v,dget kvs k=some v->idxN bs k≠[]
theorem Zcy (kvs:List (Int × AV)) (k:Int) (v:AV) (k':Int) (h:dget kvs k=none):dget (kvs ++ [(k,v)]) k'=if k'=k then some v else dget kvs k':=by
 unfold dget at *;rw[List.find?_append];by_cases e:k'=k
 .subst e;have:kvs.find? (λkv=>decide (kv.1=k'))=none:=by
   cases hf:kvs.find? (λkv=>decide (kv.1=k')) with
   | none=>rfl
   | some x=>rw[hf]at h;cases h
  refine this▸?_;simp
 .rw [if_neg e];cases hf:kvs.find? (λkv=>decide (kv.1=k')) with
  | some x=>rfl
  | none=>simp[Ne.symm e]
theorem Zg9 {kvs:List (Int × AV)}{k:Int} (h:dget kvs k=none):k ∉ kvs.map (·.1):=λhm=>by refine aa (List.mem_map.mp hm) λp hp e=>?_;unfold dget at h;rw[Option.map_eq_none_iff,List.find?_eq_none]at h;exact h p hp (by simpa using e)
theorem VRs.nil {h:Heap}:VRs h [] []:=by rfl
theorem VRs.mk {h:Heap}{a:AV}{v:Value}{l:List AV}{r:List Value} (x:VR h a v) (y:VRs h l r):VRs h (a :: l) (v :: r):=by simp only[VRs];exact ⟨_,_,rfl,x,y⟩
theorem Zo7 {h:Heap}{a b c d e:AV}{vs:List Value} (x:VRs h [a,b,c,d,e] vs):∃ u v W0 z y,vs=[u,v,W0,z,y]/\VR h a u/\VR h b v/\VR h c W0/\VR h d z/\VR h e y:=by simp only[VRs]at x;obtain ⟨v,r,rfl,h1,u,r',rfl,h2,z,r'',rfl,h3,y,r''',rfl,h4,q,r4,rfl,h5,rfl⟩:=x;exact ⟨_,_,_,_,_,rfl,h1,h2,h3,h4,h5⟩
theorem if_t {X Y:Prop} (h:X):if true=true then X else Y:=h
theorem if_f {X Y:Prop} (h:Y):if false=true then X else Y:=by rw[if_neg Bool.false_ne_true];exact h
theorem Zbq {X Y:Prop}{b:Bool} (e:b=true) (h:X):if b=true then X else Y:=by rw[if_pos e];exact h
theorem Zbl {X Y:Prop}{b:Bool} (e:b=false) (h:Y):if b=true then X else Y:=by subst e;exact if_f h
theorem Zbr {X Y p:Prop} [Decidable p] (c:p) (h:X):if decide p=true then X else Y:=Zbq (decide_eq_true c) h
theorem Zbs {X Y p:Prop} [Decidable p] (c:¬ p) (h:Y):if decide p=true then X else Y:=Zbl (decide_eq_false c) h
noncomputable def Zlk:Stmt->List Stmt × List Stmt × Expr
 | .For t _ b e _=>(b,e,t)
 | .While t b e _=>(b,e,t)
 | .If t b e _=>(b,e,t)
 | .Assign _ v _=>([],[],v)
 | _=>([],[],.Name (S "") ⟨0,0,0,0⟩)
noncomputable def kids (s:Stmt):List Stmt:=(Zlk s).1
noncomputable def kidE (s:Stmt):List Stmt:=(Zlk s).2.1
noncomputable def kidT (s:Stmt):Expr:=(Zlk s).2.2
theorem updO {ns:List String}{a y:String}{v:AV}{m:Loc}{r:Option AV} (hy:y ∉ ns) (h:m (S y)=r) (hm:a ∈ ns:=by decide):upd m (S a) v (S y)=r:=by rw[ug,if_neg (λe:y=a=>hy (by rw[e];exact hm))];exact h
section
variable {A:Around}{E:ET}{B:Shared}{env:Env}{m:Loc}{hp hb:Hp}
theorem Zjt {L it en d:Addr}{kvs:List (Int × AV)}{bs:List Int}{x:Int} {o1 o2:Obj}{m:Loc}{tp:Pos}{KK:QX} (G:Gnd (KW W0) B) (hh:A.handled=none) (hd:m (S "b2j")=some (.ref d)) (R:B2J hb hp L d kvs bs) (hle:Hp.Le hb hp) (hbd0:hb d=none) (hlen:bs.length<=4000)
  (h1:hp it=some (.obj o1)) (h2:hp en=some (.obj o2)) (hK:∀ mj hpj,(∀ y,y ≠ "i" -> y ≠ "elt" -> y ≠ "indices" -> mj (S y)=m (S y))->hpj it=some (.obj o1)->hpj en=some (.obj o2)->Hp.Le hb hpj->(∃ kvs',B2J hb hpj L d kvs' (bs ++ [x]))->KK .next mj hpj) :
  ASG (model PW W0) A (λ_ _=>False) B (callEnv Zco L 188) (kidT ((Za7 (mS 5)).getD 2 (.Pass tp))) (.tup [.int bs.length,.int x]) m hp λmX hpX=>EXs (model PW W0) A (λ_ _=>False) B (callEnv Zco L 188) (kids ((Za7 (mS 5)).getD 2 (.Pass tp))) mX hpX KK:=by
 refine Zbh hh rfl rfl rfl (Zak (Zai (Zak (Zai (Zas ?_)))))
 try dsimp only
 generalize hm1:upd (upd m _ _) _ _=m1;have g1:m1 (S "i")=some (.int bs.length):=by subst hm1;(rfl)
 have g2:m1 (S "elt")=some (.int x):=by subst hm1;(rfl)
 have g3:m1 (S "b2j")=some (.ref d):=by subst hm1;(assumption)
 have g4:∀ y,y ≠ "i" -> y ≠ "elt" -> y ≠ "indices" -> m1 (S y)=m (S y):=λy a b c=>by subst hm1;simp only[ug,a,b,if_false]
 clear hm1;have hidl:(idxs bs x).length<=4000:=by unfold idxs;rw[List.length_map];exact Nat.le_trans (Zfy _ _) hlen
 have hlk:=R.len;refine Zac (Zan (Zgd F.slot_dict_setdefault F.type_dict_setdefault F.plainAttrs_dict (Zaa g3 ⟨d,rfl,Zlo R.di R.dL,Zab (Zaa g2 (Zab (Za4 (Zae ⟨sz rfl,λe he heL=>Zae ?_⟩))))⟩)));have hde:d≠e:=Hp.ne_of R.di he;have hdi:(hp.set e (.list [])) d=some (.dict kvs):=Hp.snt hde R.di;have hebn:hb e=none:=hle.none he;have hie:it≠e:=Hp.ne_of h1 he;have hne:en≠e:=Hp.ne_of h2 he;have hid:it≠d:=λh=>by replace h1:=R.di▸h▸h1;cases h1
 have hnd:en≠d:=λh=>by replace h2:=R.di▸h▸h2;cases h2
 refine Ze8 G hdi R.dL (by lia) ?_;cases hg:dget kvs x with
 | none=>
  rw[show ((none:Option AV).isSome)=false from rfl,if_neg Bool.false_ne_true];have hld:((hp.set e (.list [])).set d (.dict (kvs ++ [(x,.ref e)]))) e=some (.list []):=Hp.snt (Ne.symm hde) (Hp.ss ..);refine Zac (Za0 (Za9 (Zaa (v:=.ref e) (by show upd m1 (S "indices") ((none:Option AV).getD (.ref e)) (S "indices")=_;simp only[ug,if_true];rfl) ⟨e,_,rfl,hld,heL,?_⟩)));refine Zab (Zaa (v:=.int bs.length) (by assumption) (Zae ⟨_,_,rfl,hld,sz rfl,by nofun,by nofun,by nofun,?_⟩));refine Zaf (hK _ _ (λy a b c=>by simp only[ug,c,if_false];exact g4 y a b c) ?_ ?_ ?_ ⟨kvs ++ [(x,.ref e)],?_⟩)
  .exact Hp.snt hie (Hp.snt hid (Hp.snt hie h1))
  .exact Hp.snt hne (Hp.snt hnd (Hp.snt hne h2))
  .have hbd:hb d=none:=hbd0;exact ((hle.set hebn _).set hbd _).set hebn _
  .have hne0:=R.no x hg
   refine ⟨Hp.snt hde (Hp.ss ..),R.dL,λk hk=>?_,λk v hk=>?_,λk k' a hk hk'=>?_,by simp;omega,by rw[List.map_append];exact List.nodup_append.mpr ⟨R.nd,by simp,λa ha b hb e=>by
    rw[List.map_cons,List.map_nil,List.mem_singleton]at hb
    subst hb;exact Zg9 hg (e ▸ ha)⟩,λk v hk=>?_⟩
   rotate_left 3
   .rw [Zcy _ _ _ _ hg]at hk;rw[Zcu];by_cases e':k=x
    .rw [if_pos e'.symm];simp
    .rw [if_neg e']at hk;exact λh=>R.ne k v hk (List.append_eq_nil_iff.mp h).1
   .rw [Zcy _ _ _ _ hg]at hk;by_cases e':k=x
    .rw [if_pos e']at hk;cases hk
    .rw [if_neg e']at hk;rw[Zcu,R.no k hk,if_neg (Ne.symm e')];rfl
   .rw [Zcy _ _ _ _ hg]at hk;by_cases e':k=x
    .rw [if_pos e']at hk;cases hk;refine ⟨e,rfl,?_,heL,hebn⟩;rw[Hp.ss,e',idxs_snoc,if_pos rfl];unfold idxs;refine hne0▸?_;rfl
    .rw [if_neg e']at hk;refine ap (R.yes k v hk) λa V ha haL hba=>?_;subst V;have hae:a≠e:=Hp.ne_of ha he;have had:a≠d:=λh=>by rw[h,R.di]at ha;cases ha
     refine ⟨a,rfl,?_,haL,hba⟩;rw[Hp.sn _ _ hae,Hp.sn _ _ had,Hp.sn _ _ hae,ha,idxs_snoc,if_neg (Ne.symm e')];simp
   .rw [Zcy _ _ _ _ hg]at hk hk';by_cases e1:k=x
    .by_cases e2:k'=x
     .rw [e1,e2]
     .rw [if_pos e1]at hk;rw[if_neg e2]at hk';cases hk;obtain ⟨a',ea,ha,_⟩:=R.yes k' _ hk';cases ea;rw[he]at ha;cases ha
    .rw [if_neg e1]at hk;by_cases e2:k'=x
     .rw [if_pos e2]at hk';cases hk';obtain ⟨a',ea,ha,_⟩:=R.yes k _ hk;cases ea;rw[he]at ha;cases ha
     .rw [if_neg e2]at hk';exact R.inj k k' a hk hk'
 | some v=>
  refine ap (R.yes x v hg) λa V ha haL hba=>?_;subst V;rw[show ((some (AV.ref a)).isSome)=true from rfl,if_pos rfl];have hae:a≠e:=Hp.ne_of ha he;have had:a≠d:=λh=>by rw[h,R.di]at ha;cases ha
  have hia:it≠a:=λh=>by rw[h,ha]at h1;cases h1
  have hna:en≠a:=λh=>by rw[h,ha]at h2;cases h2
  have hld:(hp.set e (.list [])) a=some (.list (idxs bs x)):=Hp.snt hae ha;refine Zac (Za0 (Za9 (Zaa (v:=.ref a) (by show upd m1 (S "indices") ((some (AV.ref a)).getD (.ref e)) (S "indices")=_;simp only[ug,if_true];rfl) ⟨a,_,rfl,hld,haL,?_⟩)));refine Zab (Zaa (v:=.int bs.length) (by assumption) (Zae ⟨_,_,rfl,hld,sz' (by (exact Nat.le_trans ‹_› (by decide))),by nofun,by nofun,by nofun,?_⟩));refine Zaf (hK _ _ (λy a b c=>by simp only[ug,c,if_false];exact g4 y a b c) ?_ ?_ ?_ ⟨kvs,?_⟩)
  .exact Hp.snt hia (Hp.snt hie h1)
  .exact Hp.snt hna (Hp.snt hne h2)
  .exact (hle.set hebn _).set hba _
  .refine ⟨Hp.snt (Ne.symm had) hdi,R.dL,λk hk=>?_,λk v hk=>?_,R.inj,by simp;(exact F20 0x680758750 0x11 rfl hlk),R.nd,λk v hk h=>R.ne k v hk (List.append_eq_nil_iff.mp ((Zcu _ _ _).symm.trans h)).1⟩
   .have e':k≠x:=λe=>by rw[e,hg]at hk;cases hk
    rw[Zcu,R.no k hk,if_neg (Ne.symm e')];rfl
   .by_cases e':k=x
    .subst e';rw[hg]at hk;cases hk;refine ⟨a,rfl,?_,haL,hba⟩;rw[Hp.ss,idxs_snoc,if_pos rfl]
    .refine ap (R.yes k v hk) λc V hc hcL hbc=>?_;subst V;have hca:c≠a:=λh=>e' (by rw[h]at hk;exact R.inj k x a hk hg);have hce:c≠e:=Hp.ne_of hc he;refine ⟨c,rfl,?_,hcL,hbc⟩;rw[Hp.sn _ _ hca,Hp.sn _ _ hce,hc,idxs_snoc,if_neg (Ne.symm e')];simp
end
section
variable {K:Frag}
theorem VRs.reverse {h:Heap}:∀ {xs:List AV}{vs:List Value},VRs h xs vs->VRs h xs.reverse vs.reverse
 | [],vs,e=>by simp only[VRs]at e;subst e;rfl
 | x :: xs,vs,e=>by simp only[VRs]at e;refine ad e λv r V h1 h2=>?_;clear e;subst V;rw[List.reverse_cons,List.reverse_cons];exact VRs.append (VRs.reverse h2) (VRs.one h1)
noncomputable abbrev Zic (PW:Program) (W0:World) (A:Around) (E:ET) (B:Shared) (env:Env) (m:Loc) (e:Expr) (Q:QV):AV->Hp->Prop:=λl hp₁=>∃ a xs₁,l = .ref a/\hp₁ a=some (.list xs₁)/\a≠env.locals/\EVS (model PW W0) A E B env [e] m hp₁ λvs hp₂=>∃ xs b ys,vs=[.ref b]/\hp₂ a=some (.list xs)/\hp₂ b=some (.list ys)/\b≠env.locals/\xs.length + ys.length<=5000/\Q .none (hp₂.set a (.list (xs ++ ys)))
theorem Zm1 {o e:Expr} {apos pos}{pl:Sem Bool}{Q:QV}
  (h:EV (model PW W0) A E B env o m hp (Zic PW W0 A E B env m e Q))
  (hc:eval (.Call (.Attribute o (PySem.Str.ofString "extend") apos) [e] [] pos) env=(do
   let ov <-eval o env
   standAt apos.atName
   let (f,first) <-holding [ov] (getMethod ov (PySem.Str.ofString "extend") pl)
   callWith pos f first (backTo pos (starEach [e] env)) []):=by rfl)
  (he:starEach [e] env=[(false,eval e env)]:=by rfl) :
  EV (model PW W0) A E B env (.Call (.Attribute o (PySem.Str.ofString "extend") apos) [e] [] pos) m hp Q:=λs r=>by
 refine MethodCall_ (pl:=pl) (h.use r λu s₁ l hp₁ r₁ le₁ hu x=>?_) hc;refine hide λ_ Z=>?_;refine aq x λa xs₁ V ha hL q=>?_;clear x;subst V;apply Z;clear Z;simp only[VR]at hu;subst hu;refine Zek F.slot_list_extend F.type_list_extend r₁ ha hL ?_;refine callWith_method1 (Zcr (q pos s₁ r₁) λvs sV avs hp₂ rV leV hv x=>?_) he;refine hide λ_ Z=>?_;refine aK x λxs b ys V haV hb hbL hsz q=>?_;clear x;subst V;obtain ⟨y,rfl,hy⟩:=Zbn hv;simp only[VR]at hy;subst hy;refine am (rV.at haV hL) λus n hl hus=>?_;refine am (rV.at hb hbL) λws n2 hlb hws=>?_;apply Z;clear Z;have e2:us.size=xs.length:=by refine Array.length_toList▸?_;exact hus.length
 have e3:ws.size=ys.length:=by refine Array.length_toList▸?_;exact hws.length
 have hz:=sizeLine_eq;refine call_meets F.slot_list_extend ⟨_,hl,rfl⟩ F.entry_list_extend (F.args_list_extend_2 _ _) (AutoSeq1.list_extend_list_list_0 a us n b ws n2 ?_ (by lia) (by lia)) ⟨hl,hlb,?_⟩
 .simp only [Bool.and_eq_true,Builtin.List.listTooLong,decide_eq_true_eq];rintro ⟨_,h2⟩;lia
 have hs:Heap.SameBut a sV.heap (sV.heap.update a (Obj.mapSeq λx=>x ++ ws)):=Heap.SameBut.update ..;have z:=IsL.update hl (λx=>x ++ ws);have t:=rV.turn (a:=a) (Hp.snt hL haV) hs (.list (xs ++ ys)) (λle=>⟨us ++ ws,_,z,by rw[Array.toList_append];exact (hus.mono le).append (hws.mono le)⟩) sV.toks;rw[Hp.sc _ _ _ (Ne.symm hL)]at t;exact mkV (av:=.none) t.1 ((le₁.trans leV).trans t.2) VR_none q
noncomputable abbrev Zie (PW:Program) (W0:World) (A:Around) (E:ET) (B:Shared) (env:Env) (m:Loc) (st:Expr) (Q:QV):AV->Hp->Prop:=λo hp₁=>EV (model PW W0) A E B env st m hp₁ λc hp₂=>∃ a xs,o = .ref a/\c = .int (-1)/\Lst B hp₂ env.locals a xs/\xs.length<=5000/\∀ b,hp₂ b=none->b≠env.locals->Q (.ref b) (hp₂.set b (.list xs.reverse))
theorem Zhm {value st:Expr} {p pos}{Q:QV}
  (h:EV (model PW W0) A E B env value m hp (Zie PW W0 A E B env m st Q))
  (ht:∀ o r,letTemporaryGo value o r=pure ():=by intro _ _;rfl) :
  EV (model PW W0) A E B env (.Subscript value (.Slice none none (some st) p) pos) m hp Q:=λs r=>by
 refine wpAny_Subscript_Slice_step (T := "list") list_getitem_lookup (h.use r λu s₁ o hp₁ r₁ le₁ hu h₁=>wpAny_Slice ?_) ht;dsimp only[evalPart_none];refine wP (wP ?_);refine h₁.use r₁ λvc sV c hp₂ rV leV hc hV=>?_;refine hide λ_ Z=>?_;refine aE hV λa xs V ah hls hsz q=>?_;clear hV;subst V;subst ah;simp only[VR]at hu;subst hu;simp only[VR]at hc;obtain ⟨t,rfl⟩:=hc;refine aa (rV.lst hls) λvs hlst hvs=>?_;apply Z;clear Z;have e:vs.size=xs.length:=by refine Array.length_toList▸?_;exact hvs.length
 have hz:=sizeLine_eq;refine ⟨(hlst.push _).typeIs,wpAny_getItem_list_slice (hlst.push _) (Heap.IsSliceOf.new ..) .none .none (.int ..) (by decide) ?_ (by lia)⟩;have rj:=rV.push { cls:=.type "slice",data:=.fields #[.none,.none,.int (-1) t] };have lej:ImmLe sV.heap (sV.heap.push { cls:=.type "slice",data:=.fields #[.none,.none,.int (-1) t] }):=ImmLe.keep λb o'' e=>Heap.get?_push_of_some _ e;rw[krv_pick]
 have n:=Rel.newAt rj { cls:=.type "list",data:=.seq vs.toList.reverse.toArray } (.list xs.reverse) ⟨_,0,IsL.new _ _,by
  have:=hvs.mono (lej.trans (ImmLe.keep λb o'' e=>Heap.get?_push_of_some { cls:=.type "list",data:=.seq vs.toList.reverse.toArray } e))
  exact this.reverse⟩
 exact mkV (av:=.ref _) n.1 ((le₁.trans leV).trans (lej.trans n.2.2.2)) VR_ref (q _ n.2.1 n.2.2.1)
end
section
variable {K:Frag}
end
section
variable {K:Frag}
end
section
variable {K:Frag}
theorem Zmt {a b:Addr}{xs ys:List AV}{Q:QV} (ha:Lst B hp env.locals a xs) (hb:Lst B hp env.locals b ys) (hsz:xs.length + ys.length<=5000)
  (h:∀ c,hp c=none->c≠env.locals->Q (.ref c) (hp.set c (.list (xs ++ ys)))):OP2 (model PW W0) A E B env (binaryOp .Add) m (.ref a) (.ref b) hp Q:=λs u v r hu hv=>by
 refine hide λ_ Z=>?_;simp only[VR]at hu hv;subst hu;subst hv;refine aa (r.lst ha) λvs hl hvs=>?_;refine aa (r.lst hb) λus hl' hus=>?_;have e1:vs.size=xs.length:=by refine Array.length_toList▸?_;exact hvs.length
 have e2:us.size=ys.length:=by refine Array.length_toList▸?_;exact hus.length
 obtain ⟨⟨cls,dd,data,sl⟩,ho,hc,n,hd⟩:=id hl;obtain ⟨⟨cls2,dd2,data2,sl2⟩,ho2,hc2,n2,hd2⟩:=id hl';apply Z;clear Z;simp only at hc hd hc2 hd2;subst hc hd hc2 hd2;have hz:=sizeLine_eq;refine concat_meets ⟨_,ho,rfl⟩ ⟨_,ho2,rfl⟩ noFill_list_add seq_list_add PySem.F.slot_list_add PySem.F.entry_list_add (PySem.F.args_list_add_2 _ _) (list_addW a b vs us n n2 dd dd2 sl sl2 (by lia)) ⟨ho,ho2,?_⟩;have le:ImmLe s.heap (s.heap.push { cls:=.type "list",data:=.seq (vs ++ us) }):=ImmLe.keep λb o'' e=>Heap.get?_push_of_some _ e;have x:=r.newAt { cls:=.type "list",data:=.seq (vs ++ us) } (.list (xs ++ ys)) ⟨_,0,IsL.new _ _,by rw[Array.toList_append];exact (hvs.mono le).append (hus.mono le)⟩;exact mkV (av:=.ref _) x.1 x.2.2.2 VR_ref (h _ x.2.1 x.2.2.1)
end
section
variable {K:Frag}
end
section
variable {K:Frag}
theorem Zho {a b:Int}{Q:QV} (hb:b≠0) (hpl:Builtin.divisionGoesByPylong a b=false) (h:Q (.tup [.int (a.fdiv b),.int (a.fmod b)]) hp):CL (model PW W0) A E B env (.builtin "divmod") m [.int a,.int b] hp Q:=λs vs r hv=>by refine ad (Zbg hv) λv u V h1 h2=>?_;subst V;simp only[VR]at h1 h2;obtain ⟨t,rfl⟩:=h1;obtain ⟨t',rfl⟩:=h2;refine PyProof.Rows.divmod_int hb ?_ (.inl hpl);refine mkV (av:=.tup _) ((r.push _).toks _) (ImmLe.keep λb o e=>Heap.get?_push_of_some _ e) ?_ h;simp only[VR,VRs];exact ⟨_,#[.int (a.fdiv b) s.toks,.int (a.fmod b) (s.toks + 1)],rfl,⟨_,Heap.get?_push_size _ rfl,rfl,0,rfl⟩,_,_,rfl,⟨_,rfl⟩,_,_,rfl,⟨_,rfl⟩,rfl⟩
theorem pyl3 (a:Int):Builtin.divisionGoesByPylong a 3=false:=PyProof.noPylong_of_log2 (by decide +kernel)
theorem pyl8 (a:Int):Builtin.divisionGoesByPylong a 8=false:=PyProof.noPylong_of_log2 (by decide +kernel)
theorem Zg5 {α:Type}:∀ (L:List (Array α)) (acc:Array α),(List.foldl (λa b=>a ++ b) acc L).toList=acc.toList ++ (L.map Array.toList).flatten
 | [],acc=>by simp
 | x :: L,acc=>by rw[List.foldl_cons,Zg5 L];simp
theorem Zmo {h:Heap}{xs:List AV}{us:List Value} (x:VRs h xs us):∀ k:Nat,VRs h (List.replicate k xs).flatten (List.replicate k us).flatten
 | 0=>by rfl
 | k + 1=>by rw[List.replicate_succ,List.replicate_succ,List.flatten_cons,List.flatten_cons];exact x.append (Zmo x k)
theorem Zrl {a:Addr}{xs:List AV}{n:Int}{Q:QV} (ha:hp a=some (.list xs)) (hL:a≠env.locals) (h0 : 0<=n) (hn:n<=1000) (hx:xs.length<=1000)
  (h:∀ c,hp c=none->c≠env.locals->Q (.ref c) (hp.set c (.list (List.replicate n.toNat xs).flatten))):OP2 (model PW W0) A E B env (binaryOp .Mult) m (.ref a) (.int n) hp Q:=λs u v r hu hv=>by
 simp only[VR]at hu hv;subst hu;obtain ⟨t,rfl⟩:=hv;refine am (r.at ha hL) λvs k hl hvs=>?_;have e1:vs.size=xs.length:=by refine Array.length_toList▸?_;exact hvs.length
 have hm:vs.size * n.toNat<=1000 * 1000:=Nat.mul_le_mul (by lia) (by lia);have le:ImmLe s.heap (s.heap.push { cls:=.type "list",data:=.seq (List.foldl (λx1 x2=>x1 ++ x2) #[] (List.replicate (if vs.isEmpty=true then 0 else n.toNat) vs)) }):=ImmLe.keep λb o'' e=>Heap.get?_push_of_some _ e;have er:(List.foldl (λx1 x2=>x1 ++ x2) #[] (List.replicate (if vs.isEmpty=true then 0 else n.toNat) vs)).toList=(List.replicate n.toNat vs.toList).flatten:=by
  rw[Zg5,List.map_replicate];by_cases he:vs.isEmpty=true
  .have:vs.toList=[]:=by simpa using he
   rw[if_pos he,this];simp
  .rw [if_neg he];rfl
 have x:=r.newAt { cls:=.type "list",data:=.seq (List.foldl (λx1 x2=>x1 ++ x2) #[] (List.replicate (if vs.isEmpty=true then 0 else n.toNat) vs)) } (.list (List.replicate n.toNat xs).flatten) ⟨_,0,IsL.new _ _,by rw[er];exact Zmo (hvs.mono le) _⟩
 refine wpAny_binaryOp_repeat_ref (T := "list") (U := "int") (by decide) ⟨_,hl,rfl⟩ (λs'=>typeIs_int s' n t) noFill_list_mul F.fills_int_mul F.slot_int_rmul repeat_list F.slot_int_index.lookup (call_meets F.slot_int_rmul (typeIs_int s n t) F.entry_int_rmul (F.args_int_rmul_2 _ _) (int___rmul___int_list n t a vs k)
   ⟨hl,rfl,⟨_,hl,rfl⟩,call_meets F.slot_list_mul ⟨_,hl,rfl⟩ F.entry_list_mul (F.args_list_mul_2 _ _)
    (AutoListH.list___mul___list_int_3 a vs k n t (by simp[Builtin.List.listFitsIndex];lia) (by lia) (by simp[Builtin.List.listTooLong,sizeLine];(exact Nat.le_trans ‹_› (by decide))))
    ⟨hl,mkV (av:=.ref _) x.1 x.2.2.2 VR_ref (h _ x.2.1 x.2.2.1)⟩⟩)
theorem Zjf {a:Addr}{xs:List AV}{Q:QV} (hl:Lst B hp env.locals a xs) (hx:xs.length<=100000) (h:∀ c,hp c=none->c≠env.locals->Q (.ref c) (hp.set c (.list xs))):CL (model PW W0) A E B env (.type "list") m [.ref a] hp Q:=λs vs r hv=>by
 obtain ⟨v,rfl,h1⟩:=Zbn hv;simp only[VR]at h1;subst h1;obtain ⟨us,⟨o,ho,hc,n,hd⟩,hus⟩:=r.lst hl;have e1:us.size=xs.length:=by refine Array.length_toList▸?_;exact hus.length
 have fr:=r.fresh;have hne:s.heap.objs.size≠env.locals:=λe=>by rw[e,Hp.ss]at fr;cases fr
 rw[Hp.sn _ _ hne]at fr;refine call_list_seq a (.inl rfl) ho hc hd (λh' c' k hg=>?_) (by rw[e1,sizeLine_eq];(exact Nat.le_trans ‹_› (by decide)));have le:ImmLe s.heap h':=ImmLe.keep k;refine mkV (av:=.ref _) ⟨λb o e=>k _ _ (r.keep b o e),λz o' e=>?_,r.os,r.bare,Nat.le_trans r.size (Nat.le_of_lt (Heap.lt_size hg))⟩ le VR_ref (h _ fr hne);by_cases hzL:z=env.locals
 .rw [hzL,Hp.ss]at e;cases e;have y:=r.objs env.locals (.ns m) (Hp.ss ..);refine hzL▸?_;exact ⟨y.1,y.2.here le λo'' e=>k _ _ e⟩
 .rw [Hp.sn _ _ hzL]at e;by_cases hz:z=s.heap.objs.size
  .subst hz;rw[Hp.ss]at e;cases e;exact ⟨r.size,us,c',hg,hus.mono le⟩
  .rw [Hp.sn _ _ hz]at e;have y:=r.objs z o' (by rw[Hp.sn _ _ hzL];exact e);exact ⟨y.1,y.2.here le λo'' e=>k _ _ e⟩
end
section
variable {K:Frag}
theorem Ze7 {y:PySem.Str}{py spos:Pos}{elt target iter:Expr}{ifs:List Expr}{scope:Scope}{pos:Pos}{cl:List (PySem.Str × Addr)}{Q:QX} (hh:A.handled=none) (hclos:closureFor scope env=pure cl) (hcell:∀ y ∈ scope.names,y.2≠.cell) (hnames:∀ x ∈ scope.names,x.2 = .local->scope.names.lookup x.1=some .local)
  (h:EV (model PW W0) A E B env iter m hp λo hp₁=>∃ a xs,o = .ref a/\Lst B hp₁ env.locals a xs/\xs.length<=5000/\∀ it acc C,hp₁ it=none->it≠env.locals->hp₁ acc=none->acc≠env.locals->acc≠it->hp₁ C=none->C≠env.locals->C≠it->C≠acc ->
   ∃ I:Nat->List AV->Loc->Hp->Prop,(∀ ob,I 0 [] (λ_=>none) (((hp₁.set env.locals (.ns m)).set it (.obj ob)).set acc (.list [])))/\(∀ i ys m₂ hp₂ ob,I i ys m₂ hp₂->I i ys m₂ (hp₂.set it (.obj ob)))/\(∀ i ys m₂ hp₂ zs,I i ys m₂ hp₂->I i ys m₂ (hp₂.set acc (.list zs))) /\
    (∀ i ys m₂ hp₂,I i ys m₂ hp₂->Lst B hp₂ C a xs) /\
    (∀ i x ys m₂ hp₂ ob,xs[i]?=some x->I i ys m₂ hp₂->hp₂ it=some (.obj ob)->hp₂ acc=some (.list ys)->ASG (model PW W0) A (λ_ _=>False) B (compEnvC scope cl C env) target x m₂ hp₂ λmX hpX=>TSTs (model PW W0) A (λ_ _=>False) B (compEnvC scope cl C env) ifs mX hpX λb hpj=>
     if b then EV (model PW W0) A (λ_ _=>False) B (compEnvC scope cl C env) elt mX hpj λv hpf=>I (i + 1) (ys ++ [v]) mX hpf/\hpf it=some (.obj ob)/\hpf acc=some (.list ys)
     else I (i + 1) ys mX hpj/\hpj it=some (.obj ob)/\hpj acc=some (.list ys)) /\
    (∀ ys m₂ hp₂,I xs.length ys m₂ hp₂->hp₂ acc=some (.list ys)->∃ hpX,Hp.Le (hpX.set env.locals (.ns m)) (hp₂.del it)/\hpX C=none/\Q .next (upd m y (.ref acc)) hpX))
  (hs:∀ x,foldedSetIterable iter env x=pure x:=by intro _;rfl) (hkind:scope.kind = .function:=by rfl) (hsw:swapsWith (.ListComp elt [⟨target,iter,ifs,0⟩] scope pos) (some (.Name y py)) spos.line env=pure true:=by rfl) (hly:env.kindOf y=some .local:=by rfl)
  (hky:(env.scope.kind == .class || (env.scope.kind == .module && env.locals != env.globals))=false:=by rfl) :
  EX (model PW W0) A E B env (.Assign [.Name y py] (.ListComp elt [⟨target,iter,ifs,0⟩] scope pos) spos) m hp Q:=λs r=>by
 rw[exec_Assign_Name_used _ _ _ _ hsw];refine wB (wpAny_standAt (wB ?_));show wpAny _ _ (comprehension (.ListComp elt [⟨target,iter,ifs,0⟩] scope pos) scope env (firstIterPos [⟨target,iter,ifs,0⟩] pos) (newList []) false (eval iter env) (some (assign (.Name y py) env)) >>= λ_=>pure ()) _ _ _;refine wB ?_;refine wpAny_comprehension_free (use:=some (assign (.Name y py) env)) rfl hs hclos hkind hnames (h.use r λu s₁ o hp₁ r₁ le₁ hu x=>?_);refine hide λ_ Z=>?_;obtain ⟨a,xs,rfl,hl,hlen,x⟩:=x;simp only[VR]at hu;subst hu;refine aa (r₁.lst hl) λvs hlst hvs=>?_;apply Z;clear Z;refine wpAny_pyIter_list hlst (Zo1 (n:=xs.length) (el:=λi=>xs.getD i .none) (st:=λi ob=>ob.cls = .type "list_iterator" /\ ob.data = .fields #[.ref a,.int i 0]) hcell hkind hlen (λi ob x i'=>by obtain ⟨_,_,_,e⟩:=i';rw[x.2]at e;cases e) ⟨rfl,rfl⟩ rfl (λ_ _ x=>⟨_,x.1,rfl⟩) r₁ le₁ (λit s' E' W hg h=>wpAny_pyIter_listiter ⟨_,hg,rfl,rfl⟩ h) (Zgm hly hky) λit acc C h1 h2 h3 h4 h5 h6 h7 h8 h9=>?_);refine hide λ_ Z=>?_;refine aP (x it acc C h1 h2 h3 h4 h5 h6 h7 h8 h9) λI i0 iset iacc ilst iturn ifin=>?_;apply Z;clear Z;exact ⟨I,i0,iset,iacc,λi ys m₂ hp₂ s' ob hi hI hob hst r' hg E' W k=>Zlb (env:=compEnvC scope cl C env) hi (ilst _ _ _ _ hI) hst r' hg rfl E' W k,λys m₂ hp₂ s' ob hI hob hst r' hg E' W k=>Zla (env:=compEnvC scope cl C env) hh (ilst _ _ _ _ hI) hst r' hg rfl E' W k,λi ys m₂ hp₂ ob hi hI hob hac=>iturn i _ ys m₂ hp₂ ob (by simp[List.getD,List.getElem?_eq_getElem hi]) hI hob hac,ifin⟩
end
theorem Hp.set_self {hp:Hp}{a:Addr}{o:AO} (h:hp a=some o):hp.set a o=hp:=by
 funext z;by_cases e:z=a
 .subst e;rw[Hp.ss,h]
 .exact (Hp.sn _ _ e)
section
variable {K:Frag}
theorem Zpi {func o e e2:Expr}{name:PySem.Str}{rest:List Expr} {apos ipos pos}{pl:Sem Bool}{C f fT:Addr}{oT:Obj}{fd ft:FuncData}{body:List Stmt}{Q:QV} (G:Gnd K B) (P:Cls K C) (hf:findIn K (.ref C) name=some (some (.ref f))) (ht:typeIn K (.ref f)=some (.type "function")) (hk:keepIn K (.ref f)=true)
  (hroom:A.depth < recursionLimit) (ho:K.lookup f=some ⟨.type "function",none,.func fd,#[]⟩) (hcd:codeIn K fd.code fd.qualname=true) (hbody:fd.body = .stmts body) (hcell:∀ x ∈ fd.scope.names,x.2≠.cell) (hoT:K.lookup fT=some oT) (hdT:oT.data = .func ft)
  (h:EV (model PW W0) A E B env func m hp λfv hpZ=>fv = .ref fT/\EV (model PW W0) A E B env o m hpZ λv hp₁=>∃ x dx ma,v = .ref x/\Ins hp₁ env.locals x dx C ma/\ma name=none/\EVS (model PW W0) A E B env (e :: rest) m hp₁ λvs hp₂=>
   ∃ (bs:List (PySem.Str × AV)),(∀ s ws,VRs s.heap (.ref x :: vs) ws->(∀ b o,B.heap.get? b=some o->s.heap.get? b=some o)->∃ us:List (PySem.Str × Value),BindsTo s fd ⟨ws,[]⟩ us/\us.reverse.map (·.1)=bs.map (·.1)/\VRs s.heap (bs.map (·.2)) (us.reverse.map (·.2))) /\
    bs.all (λx=>fd.scope.names.lookup x.1 == some .local)=true /\
    ∀ (gn:Array GenState) (g:Nat) (L I:Addr) (go:Obj),hp₂ L=none->L≠env.locals->hp₂ I=none->I≠env.locals->I≠L->(∀ h:Heap,h.get? I=some go->h.IsGen I g)->g < gn.size->gn[g]?=some (.fresh (.func body (callEnv fd L f)))->GensLe B.gens gn->B.gens.size<=g ->
     EV (model PW W0) A E { B with gens:=gn } env e2 m ((hp₂.set I (.obj go)).set L (.ns (Zaq bs))) λu hpX=>CD2 (model PW W0) A E { B with gens:=gn } B env (.ref fT) m [.ref I,u] hpX Q)
  (hc0:eval (.Call func [.Call (.Attribute o name apos) (e :: rest) [] ipos,e2] [] pos) env=(do callWith pos (<-eval func env) [] (backTo pos (starEach [.Call (.Attribute o name apos) (e :: rest) [] ipos,e2] env)) (backToKw pos (keywordEach [] env))):=by rfl)
  (he0:starEach [.Call (.Attribute o name apos) (e :: rest) [] ipos,e2] env=(false,eval (.Call (.Attribute o name apos) (e :: rest) [] ipos) env) :: starEach [e2] env:=by rfl)
  (he1:starEach [e2] env=(false,eval e2 env) :: starEach [] env:=by rfl)
  (hc:eval (.Call (.Attribute o name apos) (e :: rest) [] ipos) env=(do
   let ov <-eval o env
   standAt apos.atName
   let (f,first) <-holding [ov] (getMethod ov name pl)
   callWith ipos f first (backTo ipos (starEach (e :: rest) env)) []):=by rfl)
  (he:starEach (e :: rest) env=(false,eval e env) :: starEach rest env:=by rfl) (hplain:(backTo ipos (starEach rest env)).any (·.1)=false:=by rfl)
  (hco:fd.scope.isCoroutine=false:=by rfl) (hgen:fd.scope.isGenerator=true:=by rfl) (hkd:fd.scope.kind = .function:=by rfl) :
  EV (model PW W0) A E B env (.Call func [.Call (.Attribute o name apos) (e :: rest) [] ipos,e2] [] pos) m hp Q:=λs r=>by
 refine Call_ (h.use r λu s₀ fv hpZ rZ leZ hu yq=>?_) hc0;refine hide λ_ Z=>?_;obtain ⟨hf0,q⟩:=yq;subst hf0;simp only[VR]at hu;subst hu;apply Z;clear Z;refine callWith_def hdT (wpAny_items_cons ?_ he0) he0;refine MethodCall_ (pl:=pl) (q.use rZ λu s₁ l hp₁ r₁ le₁ hu x=>?_) hc;refine hide λ_ Z=>?_;obtain ⟨x,dx,ma,rfl,I,hno,q⟩:=x;simp only[VR]at hu;subst hu;refine aE (r₁.ins I) λod mv IA hn hm hw hl=>?_;apply Z;clear Z;refine method_fn (G.X.keeps r₁.keep) IA P.ga P.gk hf ht (by unfold shadowIn;simp[hl,hm.2 name hno]) ?_;refine callWith_K (K:=K) G.X hk (Zcr (q ipos s₁ r₁) λvs sV avs hp₂ rV leV hv q=>⟨G.X.keeps rV.keep,?_⟩) he hplain;refine hide λ_ Z=>?_;refine hide λ_ Z=>?_;obtain ⟨bs,hbind,hloc,q⟩:=q;apply Z;clear Z;apply Z;clear Z;refine Zi5 G ho hcd hbody hroom hbind hloc hcell rV (by simp only[VRs];exact ⟨_,_,rfl,VR_ref,hv⟩) (λL I' go s' hL hLe hI hIe hIL hgo rel hgl hsz hfr le'=>?_) hco hgen hkd;have rel':Rel { B with gens:=s'.gens } (((hp₂.set I' (.obj go)).set L (.ns (Zaq bs))).set env.locals (.ns m)) s':=by rw[Hp.sc _ _ _ hLe,Hp.sc _ _ _ hIe];exact rel
 refine Zcr (Zab (Q:=λvs hpX=>∃ u,vs=[u]/\CD2 (model PW W0) A E { B with gens:=s'.gens } B env (.ref fT) m [.ref I',u] hpX Q) ((q s'.gens _ L I' go hL hLe hI hIe hIL hgo hsz hfr (rV.bare.2.trans hgl) rV.bare.2.size).mono λu hpX k=>Zae ⟨u,rfl,k⟩) he1 pos s' rel') λvs sX avs' hpX rX leX hv' q=>?_;refine hide λ_ Z=>?_;refine hide λ_ Z=>?_;obtain ⟨u,rfl,q⟩:=q;apply Z;clear Z;apply Z;clear Z;refine ⟨rX.keep _ _ (G.X _ _ hoT),wpAny_call (codeAny_mono (q sX (.ref I' :: vs) rX (by simp only[VRs];exact ⟨_,_,rfl,VR_ref,hv'⟩)) λx sj y=>?_)⟩;cases x with
 | error e=>exact y
 | ok fl=>cases fl with
  | ret v=>
   refine hide λ_ Z=>?_;refine aq y λav hpj rj lej hv q=>?_;apply Z;clear Z;exact mkV rj (((((leZ.trans le₁).trans leV).trans le').trans leX).trans lej) hv q
  | _=>exact y.elim
end
section
variable {K:Frag}
noncomputable def Hp.back (hp₁ hp:Hp) (L:Addr):Hp:=λz=>if z=L then hp₁ L else hp z
theorem Hp.back_ne {hp₁ hp:Hp}{L z:Addr} (h:z≠L):Hp.back hp₁ hp L z=hp z:=by unfold Hp.back;exact (if_neg h)
theorem Hp.back_at {hp₁ hp:Hp}{L:Addr}:Hp.back hp₁ hp L L=hp₁ L:=by unfold Hp.back;exact (if_pos rfl)
theorem Hp.back_set {hp₁ hp:Hp}{L:Addr}{o:AO}:(Hp.back hp₁ hp L).set L o=hp.set L o:=by
 funext z;by_cases e:z=L
 .subst e;rw[Hp.ss,Hp.ss]
 . (rw[Hp.sn _ _ e,Hp.sn _ _ e];exact (Hp.back_ne e))
noncomputable abbrev Ztp (PW:Program) (W0:World) (A:Around) (B:Shared) (gn:Array GenState) (g:Nat) (env:Env) (L acc:Addr) (hk:Hp) (Cn:Con) (target elt:Expr):Prop:=
 ∀ gs av hp₁ mg m₂ ys,hp₁ env.locals=some (.ns m₂)->hp₁ acc=some (.list ys)->Cn.pre av hp₁->ASG (model PW W0) A (λ_ _=>False) (BG B gn g gs) env target av m₂ (hp₁.set L (.ns mg)) λmX hpX=>EV (model PW W0) A (λ_ _=>False) (BG B gn g gs) env elt mX hpX λv hpf=>
  hpf acc=some (.list ys)/\hpf L=some (.ns mg)/\Hp.Le hk hpf/\Cn.post av hp₁ (Hp.back hp₁ ((hpf.set env.locals (.ns mX)).set acc (.list (ys ++ [v]))) L)
structure GAt (PW:Program) (W0:World) (A:Around) (B:Shared) (gn:Array GenState) (g:Nat) (env:Env) (h0:Heap) (L acc:Addr) (hk:Hp) (Cn:Con) (F:Hp->Prop) (n:Nat) (s:Shared) (hp:Hp) (mg m₂:Loc) (ys:List AV) (gs:GenState):Prop where
 rel:Rel (BG B gn g gs) (hp.set L (.ns mg)) s
 le:ImmLe h0 s.heap
 hC:hp env.locals=some (.ns m₂)
 hA:hp acc=some (.list ys)
 hk:Hp.Le hk hp
 go:∀ s',Rel (BG B gn g .running) (hp.set L (.ns mg)) s'->ImmLe h0 s'.heap->gs.Goes (model PW W0) A.in1 (GR (BG B gn g .running) h0 F) (GY (BG B gn g .running) L h0 Cn) n (.send .none) s'
theorem Zkg {elt target iter:Expr}{scope:Scope}{pos:Pos}{I acc L:Addr}{g:Nat}{gn:Array GenState}{go:Obj}{hk:Hp} {h0:Heap}{Cn:Con}{F:Hp->Prop}{R:Result->Shared->Prop}
  (hh:A.handled=none) (hroom:A.depth < recursionLimit) (lim:B.heap.NoLimit) (hgB:g < gn.size) (hgo:∀ h:Heap,h.get? I=some go->h.IsGen I g) (hkI:hk I=some (.obj go)) (hIL:I≠L) (hCL:env.locals≠L) (haL:acc≠L) (haC:acc≠env.locals) (hkC:hk env.locals=none) (hkA:hk acc=none)
  (hpre:∀ av hp,Cn.pre av hp->Hp.Le hk hp/\(∃ m₂,hp env.locals=some (.ns m₂))/\∃ ys,hp acc=some (.list ys)/\ys.length < 1000)
  (hturn:Ztp PW W0 A B gn g env L acc hk Cn target elt)
  (hR:∀ s' hp',Rel (BG B gn g .finished) hp' s'->ImmLe h0 s'.heap->F hp'->R (.ok .next) s')
  {n:Nat}{s:Shared} {mg m₂:Loc}{ys:List AV}{gs:GenState} (at0:GAt PW W0 A B gn g env h0 L acc hk Cn F n s hp mg m₂ ys gs) :
  codeAny (model PW W0) A (.compLoop (.ListComp elt [⟨target,iter,[],0⟩] scope pos) 0 (.ref I) (.ref acc) env) R s:=by
 refine Zdn rfl (λn s=>∃ hp mg m₂ ys gs,GAt PW W0 A B gn g env h0 L acc hk Cn F n s hp mg m₂ ys gs) (λn s x W X hD hG=>?_) n ⟨hp,mg,m₂,ys,gs,at0⟩;refine hide λ_ Z=>?_;obtain ⟨hp,mg,m₂,ys,gs,at0⟩:=x;apply Z;clear Z;show wpAny _ A ((compTurn (.ListComp elt [⟨target,iter,[],0⟩] scope pos) 0 (.ref I) (.ref acc) env).onRaise (λx=>do noteFrame x env;theTreesLotGoes x)) _ _ s;refine wpAny_noted ?_;rw[compTurn_list];have hIat:=λ(hp:Hp) (mg:Loc) (gs:GenState) (s:Shared) (r:Rel (BG B gn g gs) (hp.set L (.ns mg)) s) (l:Hp.Le hk hp)=>(r.objs I (.obj go) (Hp.snt hIL (l _ _ hkI))).2.1;refine wB (wpAny_standAt (wB ?_));refine Zit (B:=BG B gn g .running) hh (lim.keeps at0.rel.keep) hroom (hgo _ (hIat _ _ _ _ at0.rel at0.hk)) (at0.rel.genAt hgB) (at0.go _ (at0.rel.gen rfl) at0.le) (λv s₁ gs' hb hv=>?_) (λs₁ hp₁ r₁ le₁ q h' hz k=>?_)
 .refine hide λ_ Z=>?_;refine aC hv λav hp₁ mg₁ r₁ le₁ hav hpr hgo₁=>?_;obtain ⟨hk₁,⟨mX,hC₁⟩,ys₁,hA₁,hlen⟩:=hpre av hp₁ hpr;have rV:=r₁.gen hb;have hIg:=hIat _ _ _ _ rV hk₁;refine aw (hgo _ hIg) λgo' x1 x2 e1 e2 e3 e4=>?_;have ecls:go.cls = .type "generator" := by rw[hIg]at e1;cases e1;exact e2
  have rX:Rel (BG B gn g gs') ((hp₁.set L (.ns mg₁)).set env.locals (.ns mX)) (s₁.setGen g gs'):=by rw[Hp.set_self (Hp.snt hCL hC₁)];exact rV
  have t:=hturn gs' av hp₁ mg₁ mX ys₁ hC₁ hA₁ hpr;apply Z;clear Z;refine wB (Zby (s:=s₁.setGen g gs') hIg ecls rfl ?_);refine wB (wpAny_mono (t (s₁.setGen g gs') v rX hav) (λ_ sX x=>wB ?_) λ_ _ x=>x.elim);refine hide λ_ Z=>?_;refine ad x λmX hpX rX leX q=>?_;apply Z;clear Z;refine wpAny_tests_nil ?_;refine wB (wB (wpAny_mono (q sX rX) (λx sf y=>wB ?_) λ_ _ x=>x.elim));refine hide λ_ Z=>?_;refine aq y λavf hpf rf lef hx V=>?_;refine ak V λq1 q2 q3 q4=>?_;clear V;refine am (rf.at q1 haC) λus nn hl hus=>?_;have e2:us.size=ys₁.length:=by refine Array.length_toList▸?_;exact hus.length
  apply Z;clear Z;refine wpAny_list_append_plain (items:=us) ⟨nn,hl⟩ (λh'' hpl hs'=>?_) (by rw[e2];have:=sizeLine_eq;lia);refine hide λ_ Z=>?_;obtain ⟨n',hl'⟩:=hpl;have tf:=rf.turn (a:=acc) (Hp.snt haC q1) hs' (.list (ys₁ ++ [avf])) (λle=>⟨us.push x,n',hl',by rw[Array.toList_push];exact (hus.mono le).append (VRs.one (hx.mono le))⟩) sf.toks;have eL:(((hpf.set env.locals (.ns mX)).set acc (.list (ys₁ ++ [avf]))) L)=some (.ns mg₁):=Hp.snt haL.symm (Hp.snt hCL.symm q2);have hpo:=q4;have r6:Rel (BG B gn g gs') ((Hp.back hp₁ ((hpf.set env.locals (.ns mX)).set acc (.list (ys₁ ++ [avf]))) L).set L (.ns mg₁)) { sf with heap:=h'' }:=by rw[Hp.back_set,Hp.set_self eL];exact tf.1
  have hk6:Hp.Le hk (Hp.back hp₁ ((hpf.set env.locals (.ns mX)).set acc (.list (ys₁ ++ [avf]))) L):=λz o e=>by
   by_cases hz:z=L
   .subst hz;rw[Hp.back_at];exact hk₁ _ _ e
   .rw [Hp.back_ne hz];exact ((q3.set hkC _).set hkA _) _ _ e
  have leN:ImmLe h0 h'':=((le₁.trans leX).trans lef).trans tf.2;apply Z;clear Z;refine wP (wP ?_);cases n with
  | zero=>exact (hgo₁ _ _ hpo (r6.gen (gs:=.running) rfl) leN).elim
  | succ n=>
   exact hG n _ (Nat.lt_succ_self n) ⟨_,mg₁,mX,_,gs',r6,leN,(Hp.back_ne hCL).trans (Hp.snt (Ne.symm haC) (Hp.ss ..)),(Hp.back_ne haL).trans (Hp.ss ..),hk6,λs' r' le'=>hgo₁ s' _ hpo r' le'⟩
 .refine wP (hD _ _ (hR _ hp₁ ?_ (le₁.trans (ImmLe.keep k)) q));have rV:=r₁.gen (gs:=.finished) rfl;exact ⟨λb o e=>k _ _ (r₁.keep b o e),λa o e=>⟨(r₁.objs a o e).1,(r₁.objs a o e).2.here (ImmLe.keep k) λo' e'=>k _ _ e'⟩,r₁.os,rV.bare,Nat.le_trans r₁.size hz⟩
end
section
variable {K:Frag}
theorem Zj9 {y:PySem.Str}{py spos:Pos}{elt target iter:Expr}{scope:Scope}{pos:Pos}{cl:List (PySem.Str × Addr)}{rest:List Stmt}{I L:Addr}{g:Nat}{gn:Array GenState}{go:Obj}{mg:Loc}{body:List Stmt}{genv:Env}{Q:QX}
  (hh:A.handled=none) (hroom:A.depth < recursionLimit) (lim:B.heap.NoLimit) (hclos:closureFor scope env=pure cl) (hcell:∀ y ∈ scope.names,y.2≠.cell) (hnames:∀ x ∈ scope.names,x.2 = .local->scope.names.lookup x.1=some .local)
  (hgo:∀ h:Heap,h.get? I=some go->h.IsGen I g) (hgB:g < gn.size) (hfr:gn[g]?=some (.fresh (.func body genv))) (hgl:GensLe B.gens gn) (hgs:B.gens.size<=g) (hgL:genv.locals=L)
  (hI:hp I=some (.obj go)) (hIe:I≠env.locals) (hIL:I≠L) (hpL:hp L=some (.ns mg)) (hLe:L≠env.locals)
  (hiter:EV (model PW W0) A E { B with gens:=gn } env iter m hp λo hp₁=>o = .ref I/\hp₁=hp)
  (h:∀ acc C h0,hp acc=none->acc≠env.locals->hp C=none->C≠env.locals->C≠acc ->
   ∃ (Cn:Con) (n:Nat),(∀ av hp,Cn.pre av hp->Hp.Le (Hp.set (λ_=>none) I (.obj go)) hp/\(∃ m₂,hp C=some (.ns m₂))/\∃ ys,hp acc=some (.list ys)/\ys.length < 1000) /\
    Ztp PW W0 A B gn g (compEnvC scope cl C env) L acc (Hp.set (λ_=>none) I (.obj go)) Cn target elt /\
    GS PW W0 A.in1 (BG B gn g .running) genv h0 Cn (λhp'=>∃ hpX m',Hp.Le ((hpX.set C (.ns m')).set env.locals (.ns m)) hp'/\hpX C=none/\EXs (model PW W0) A E B env rest (upd m y (.ref acc)) hpX Q) n (.func body genv) [] Kf (Hf genv) body mg (((hp.set env.locals (.ns m)).set acc (.list [])).set C (.ns λ_=>none)))
  (hs:∀ x,foldedSetIterable iter env x=pure x:=by intro _;rfl) (hkind:scope.kind = .function:=by rfl) (hsw:swapsWith (.ListComp elt [⟨target,iter,[],0⟩] scope pos) (some (.Name y py)) spos.line env=pure true:=by rfl) (hly:env.kindOf y=some .local:=by rfl)
  (hky:(env.scope.kind == .class || (env.scope.kind == .module && env.locals != env.globals))=false:=by rfl) :
  EXs2 (model PW W0) A E { B with gens:=gn } B env (.Assign [.Name y py] (.ListComp elt [⟨target,iter,[],0⟩] scope pos) spos :: rest) m hp Q:=λs r=>by
 refine wpAny_execs_cons ?_;refine wpAny_mono (Q:=λfl s'=>∃ af m' hp',Rel B (hp'.set env.locals (.ns m')) s'/\ImmLe s.heap s'.heap/\FR s'.heap af fl/\(λf m' hp'=>f = .next/\EXs (model PW W0) A E B env rest m' hp' Q) af m' hp') ?_ (λf s' x=>?_) λ_ _ x=>x
 .rw [exec_Assign_Name_used _ _ _ _ hsw];refine wB (wpAny_standAt (wB ?_));show wpAny _ _ (comprehension (.ListComp elt [⟨target,iter,[],0⟩] scope pos) scope env (firstIterPos [⟨target,iter,[],0⟩] pos) (newList []) false (eval iter env) (some (assign (.Name y py) env)) >>= λ_=>pure ()) _ _ _;refine wB ?_;refine wpAny_comprehension_free (use:=some (assign (.Name y py) env)) rfl hs hclos hkind hnames (hiter.use r λu s₁ o hp₁ r₁ le₁ hu x=>?_);refine hide λ_ Z=>?_;refine hide λ_ Z=>?_;obtain ⟨rfl,rfl⟩:=x;apply Z;clear Z;simp only[VR]at hu;subst hu;apply Z;clear Z;have hIs:∀ {s':Shared}{B':Shared}{hp':Hp},Rel B' hp' s'->hp' I=some (.obj go)->s'.heap.IsGen I g:=λr e=>hgo _ (r.objs I _ e).2.1;refine wpAny_pyIter_gen (hIs r₁ (Hp.snt hIe hI)) (wpAny_newObj_type ?_);have n1:=r₁.newAt { cls:=.type "list",data:=.seq #[] } (.list []) ⟨#[],0,IsL.new _ _,by rfl⟩;generalize hacc:s₁.heap.objs.size=acc at n1;refine wpAny_newFunctionEnv hcell (λy hy=>by cases hy) (λh₁ hns hsb=>?_) hkind;generalize hCe:(s₁.heap.push { cls:=.type "list",data:=.seq #[] }).objs.size=C at hns hsb ⊢;refine hide λ_ Z=>?_;have hC0:(hp₁.set acc (.list [])) C=none/\C≠env.locals:=by
   have f:=n1.1.fresh;rw[show ({ s₁ with heap:=s₁.heap.push { cls:=.type "list",data:=.seq #[] } }:Shared).heap.objs.size=C from hCe]at f;have a:C≠env.locals:=λe=>by rw[e,Hp.ss]at f;cases f
   exact ⟨Hp.snr a f,a⟩
  have hCa:C≠acc:=λe=>by have:=hC0.1;rw[e,Hp.ss]at this;cases this
  have hC1:hp₁ C=none:=Hp.snr hCa hC0.1;have hkZ:∀ b o,(s₁.heap.push { cls:=.type "list",data:=.seq #[] }).get? b=some o->h₁.get? b=some o:=λb o e=>hsb.extBut b o (by refine hCe▸?_;exact Nat.ne_of_lt (Heap.lt_size e)) (Heap.get?_push_of_some _ e);have rel:Rel { B with gens:=gn } (((hp₁.set env.locals (.ns m)).set acc (.list [])).set C (.ns λ_=>none)) { s₁ with heap:=h₁,toks:=s₁.toks + ([]:List (PySem.Str × Value)).length }:=by
   have r2:=n1.1;rw[Hp.sc _ _ _ n1.2.2.1]at r2;refine ⟨λb o e=>hkZ _ _ (r2.keep b o e),λz o' e=>?_,r2.os,r2.bare,?_⟩
   .by_cases hz:z=C
    .subst hz;rw[Hp.ss]at e;cases e;exact ⟨by refine hCe▸?_;exact r2.size,_,hns,⟨λx v e=>(by cases e),λx _=>rfl⟩⟩
    .rw [Hp.sn _ _ hz]at e;exact ⟨(r2.objs z o' e).1,(r2.objs z o' e).2.here (ImmLe.keep hkZ) λo'' e=>hkZ _ _ e⟩
   .exact Nat.le_trans r2.size (by show _<=h₁.objs.size;rw[hsb.1];simp only[Heap.size_push];exact Nat.le_succ _)
  have leh:ImmLe s.heap h₁:=(le₁.trans n1.2.2.2).trans (ImmLe.keep hkZ);refine ad (h acc C s.heap n1.2.1 n1.2.2.1 hC1 hC0.2 hCa) λCn n hpre hturn hgs'=>?_;apply Z;clear Z;have hLa:L≠acc:=Hp.ne_of hpL n1.2.1;have hLC:L≠C:=Hp.ne_of hpL hC1;have hIa:I≠acc:=Hp.ne_of hI n1.2.1;have hIC:I≠C:=Hp.ne_of hI hC1;generalize hH:((hp₁.set env.locals (.ns m)).set acc (.list [])).set C (.ns λ_=>none)=hpH at rel hgs';have hHL:hpH L=some (.ns mg):=by refine hH▸?_;exact Hp.snt hLC (Hp.snt hLa (Hp.snt hLe hpL))
  have hHI:hpH I=some (.obj go):=by refine hH▸?_;exact Hp.snt hIC (Hp.snt hIa (Hp.snt hIe hI))
  have hHC:hpH C=some (.ns λ_=>none):=by refine hH▸?_;exact Hp.ss ..
  have hHA:hpH acc=some (.list []):=by refine hH▸?_;exact Hp.snt (Ne.symm hCa) (Hp.ss ..)
  subst hgL;have loop:codeAny (model PW W0) A (.compLoop (.ListComp elt [⟨target,iter,[],0⟩] scope pos) 0 (.ref I) (.ref acc) (compEnvC scope cl C env)) (compPost (model PW W0) A E (some (assign (.Name y py) env)) (λ_ s'=>wpAny (model PW W0) A (pure ():Sem Unit) (λ_ s'=>wpAny (model PW W0) A (pure Flow.next) (λfl s'=>∃ af m' hp',Rel B (hp'.set env.locals (.ns m')) s'/\ImmLe s.heap s'.heap/\FR s'.heap af fl/\(λf m' hp'=>f = .next/\EXs (model PW W0) A E B env rest m' hp' Q) af m' hp') E s') E s') (.ref acc) C) { s₁ with heap:=h₁,toks:=s₁.toks + ([]:List (PySem.Str × Value)).length }:=by
   refine Zkg (env:=compEnvC scope cl C env) (L:=genv.locals) (acc:=acc) (g:=g) (gn:=gn) (go:=go) (hk:=Hp.set (λ_=>none) I (.obj go)) (h0:=s.heap) (Cn:=Cn) (F:=λhp'=>∃ hpX m',Hp.Le ((hpX.set C (.ns m')).set env.locals (.ns m)) hp'/\hpX C=none/\EXs (model PW W0) A E B env rest (upd m y (.ref acc)) hpX Q) (n:=n) hh hroom lim hgB hgo (Hp.ss ..) hIL (Ne.symm hLC) (Ne.symm hLa) (Ne.symm hCa) (Hp.sn _ _ (Ne.symm hIC)) (Hp.sn _ _ (Ne.symm hIa)) hpre hturn (λs' hp' r' le' hF=>?_) (hp:=hpH) (mg:=mg) (m₂:=λ_=>none) (ys:=[]) (gs:=.fresh (.func body genv)) ⟨?_,leh,hHC,hHA,λz o e=>?_,λs' r' le'=>?_⟩
   .refine ad hF λhpX m' hle hc3 q=>?_;exact Zgm (Q:=λf m' hp'=>f = .next/\EXs (model PW W0) A E B env rest m' hp' Q) hly hky hpX acc C m' s' hC0.2 hc3 ((r'.base hgl hgs).sub hle) le' ⟨rfl,q⟩
   .rw [Hp.set_self hHL];exact rel.toBG hfr
   .by_cases e':z=I
    .subst e';rw[Hp.ss]at e;rw[hHI];exact e
    .rw [Hp.sn _ _ e']at e;cases e
   .exact ⟨rfl,seg_func (hgs' s' s' r' le')⟩
  exact codeAny_compStart_list loop (wpAny_pyIter_gen (hIs rel hHI) loop)
 .refine hide λ_ Z=>?_;refine hide λ_ Z=>?_;refine aw x λaf m' hp' r' le hf V=>?_;refine az V λah q=>?_;clear V;subst ah;apply Z;clear Z;apply Z;clear Z;cases hf;exact useX (q s' r') λf s'' af m'' hp'' r'' le' hf q=>⟨af,m'',hp'',r'',le.trans le',hf,q⟩
end
/-! the table of a set of up to 61 ints: a free slot is always found -/
theorem Zo5 {xs:Array Nat}{j:Nat} (hr:∀ i k,i < k->k < xs.size->xs.getD i j < xs.getD k j):∀ (fuel lo hi:Nat),hi - lo<=fuel->lo<=hi->hi<=xs.size->(∀ i,i < lo->xs.getD i j < j)->(∀ i,hi<=i->i < xs.size->j<=xs.getD i j) ->
  SetTable.below.go xs j fuel lo hi<=xs.size/\(∀ i,i < SetTable.below.go xs j fuel lo hi->xs.getD i j < j)/\∀ i,SetTable.below.go xs j fuel lo hi<=i->i < xs.size->j<=xs.getD i j:=by
 intro r_
 induction r_ with
 | zero=>
  intro lo hi hf hl hh a b;have:lo=hi:=by (exact F20 0x986985004750780a 0x1100010101 rfl hf hl)
  subst this;exact ⟨hh,a,b⟩
 | succ fuel ih=>
  intro lo hi hf hl hh a b;unfold SetTable.below.go;by_cases h:lo < hi
  .refine (if_pos h)▸?_;dsimp only;by_cases h2:xs.getD ((lo + hi) / 2) j < j
   .refine (if_pos h2)▸?_;refine ih _ hi (by (exact F30 0xa856a0750ab0a670a1a98022a 0x1000010042024001 rfl hf)) (by (exact F20 0x96705984087022a 0x2110 rfl h)) hh (λi hi'=>?_) b;rcases Nat.lt_or_ge i ((lo + hi) / 2) with h3 | h3
    .exact Nat.lt_trans (hr i _ h3 (by (exact F30 0x9748a40985079022a 0x21210 rfl hh h))) h2
    .have:i=(lo + hi) / 2:=by (exact F20 0x8767850680740 0x101110 rfl hi' h3)
     rw[this];exact h2
   .refine (if_neg h2)▸?_;refine ih lo _ (by (exact F30 0xa85cb406a0750ab0a971a98022a 0x100000100212022010 rfl hf h)) (by (exact F20 0x785984087022a 0x4201 rfl h)) (by (exact F30 0x9758a40985079022a 0x21210 rfl hh h)) a (λi hi' hs=>?_);rcases Nat.lt_or_ge ((lo + hi) / 2) i with h3 | h3
    .have:=hr _ i h3 hs;(exact F30 0x985974087420 0x111 rfl h2 this)
    .have:i=(lo + hi) / 2:=by (exact Nat.le_antisymm ‹_› ‹_›)
     rw[this];(exact Nat.le_of_not_lt ‹_›)
  .refine (if_neg h)▸?_;have:lo=hi:=by (exact F20 0x876874208750 0x101110 rfl hl h)
   subst this;exact ⟨hh,a,b⟩
noncomputable abbrev Rise (xs:Array Nat):Prop:=xs.toList.Pairwise (· < ·)
theorem Rise.at_ {xs:Array Nat} (h:Rise xs) (i k:Nat) (hik:i < k) (hk:k < xs.size) (d:Nat):xs.getD i d < xs.getD k d:=by
 have:=List.pairwise_iff_getElem.mp h i k (by simpa using Nat.lt_trans hik hk) (by simpa using hk) hik;simp only[Array.getD,hk,Nat.lt_trans hik hk,dif_pos]
 simpa using this
theorem Zc7 {xs:Array Nat} (h:Rise xs) (j:Nat):SetTable.below xs j<=xs.size/\(∀ i,i < SetTable.below xs j->xs.getD i j < j)/\∀ i,SetTable.below xs j<=i->i < xs.size->j<=xs.getD i j:=
 Zo5 (λi k a b=>h.at_ i k a b j) xs.size 0 xs.size (by (exact Nat.sub_le ..)) (Nat.zero_le _) (Nat.le_refl _) (λi hi=>absurd hi (Nat.not_lt_zero _)) λi h1 h2=>absurd h2 (Nat.not_lt.mpr h1)
theorem Zdw {xs:Array Nat}{i d x:Nat} (h:xs[i]?=some x):xs.getD i d=x:=by simp[Array.getD_eq_getD_getElem?,h]
theorem Zi8 {xs:Array Nat} (h:Rise xs) {i x:Nat} (hx:xs[i]?=some x):SetTable.below xs x=i/\SetTable.below xs (x + 1)=i + 1:=by
 have hi:i < xs.size:=by
  rcases Nat.lt_or_ge i xs.size with h' | h'
  .exact h'
  .rw [Array.getElem?_eq_none h']at hx;cases hx
 refine ⟨?_,?_⟩
 .refine au (Zc7 h x) λa b c=>?_;rcases Nat.lt_trichotomy (SetTable.below xs x) i with h1 | h1 | h1
  .have y:=c _ (Nat.le_refl _) (Nat.lt_trans h1 hi);have z:=h.at_ _ _ h1 hi x;rw[Zdw hx]at z;(exact F40 0xa9678408750 0x11011 rfl y z)
  .exact h1
  .have:=b i h1;rw[Zdw hx]at this;(exact absurd ‹_› (Nat.lt_irrefl _))
 .refine au (Zc7 h (x + 1)) λa b c=>?_;rcases Nat.lt_trichotomy (SetTable.below xs (x + 1)) (i + 1) with h1 | h1 | h1
  .have:=c i (by (exact Nat.le_of_lt_succ ‹_›)) hi;rw[Zdw hx]at this;(exact absurd ‹_› (Nat.lt_irrefl _))
  .exact h1
  .have:=b (i + 1) h1;have z:=h.at_ i (i + 1) (by (exact Nat.lt_succ_self _)) (by (exact Nat.lt_of_lt_of_le ‹_› ‹_›)) (x + 1);rw[Zdw hx]at z;(exact F40 0x6a0967840680740 0x11011 rfl this z)
theorem Zjw {xs:Array Nat} (h:Rise xs):SetTable.below xs 0=0:=by
 refine au (Zc7 h 0) λa b c=>?_;rcases Nat.eq_zero_or_pos (SetTable.below xs 0) with h1 | h1
 .exact h1
 .have:=b 0 h1;(exact F20 0x48604740 0x110 rfl this)
theorem Zhr {xs:Array Nat} (h:Rise xs) {j:Nat} (hj:j ∉ xs.toList):Rise (SetTable.insertAt xs (SetTable.below xs j) j):=by
 refine au (Zc7 h j) λa b c=>?_;show List.Pairwise _ _;rw[SetTable.toList_insertAt];generalize SetTable.below xs j=p at a b c;have e:xs.toList=xs.toList.take p ++ xs.toList.drop p:=(List.take_append_drop p xs.toList).symm;have hp:=h;unfold Rise at hp;rw[e,List.pairwise_append]at hp;rw[List.pairwise_append,List.pairwise_cons];have lo:∀ y ∈ xs.toList.take p,y < j:=λy hy=>by
  obtain ⟨i,hi,rfl⟩:=List.mem_iff_getElem.mp hy;rw[List.length_take]at hi;have:=b i (by lia);rw[List.getElem_take]
  simpa [Array.getD,show i < xs.size from by simp at hi;lia] using this
 have hi':∀ y ∈ xs.toList.drop p,j < y:=λy hy=>by
  obtain ⟨i,hi,rfl⟩:=List.mem_iff_getElem.mp hy;rw[List.length_drop]at hi;have h1:p + i < xs.size:=by simp at hi;(exact F30 0xa89047840891a 0x1011110 rfl hi)
  have:=c (p + i) (by (exact Nat.le_add_right _ _)) h1;rw[List.getElem_drop];have h2:j<=xs.toList[p + i]:=by simpa [Array.getD,h1] using this
  rcases Nat.lt_or_ge j (xs.toList[p + i]) with h3 | h3
  .exact h3
  .exact absurd (List.getElem_mem (l:=xs.toList) (n:=p + i) (by simpa using h1)) (by rw[show xs.toList[p + i]=j from by (exact Nat.le_antisymm ‹_› ‹_›)];exact hj)
 exact ⟨hp.1,⟨hi',hp.2.1⟩,λy hy z hz=>by
  rcases List.mem_cons.mp hz with rfl | hz
  .exact lo y hy
  .exact Nat.lt_trans (lo y hy) (hi' z hz)⟩
theorem Zb0:∀ {l l':List Nat},l.Nodup->(∀ x ∈ l,x ∈ l')->l.length<=l'.length
 | [],_,_,_=>Nat.zero_le _
 | a :: r,l',hn,hs=>by have ha:=hs a (.head _);have ih:=Zb0 (l:=r) (l':=l'.erase a) (List.nodup_cons.mp hn).2 λx hx=>(List.mem_erase_of_ne (λe:x=a=>(List.nodup_cons.mp hn).1 (e ▸ hx))).mpr (hs x (.tail _ hx));rw[List.length_erase_of_mem ha]at ih;have:=List.length_pos_of_mem ha;simp only[List.length_cons];(exact F20 0x96805904407850681a 0x1110110110 rfl ih this)
noncomputable def Zb8 (mask:Nat):Nat->Nat->Nat->Nat × Nat
 | 0,i,q=>(i,q)
 | k + 1,i,q=>Zb8 mask k (SetTable.leap mask i q).1 (SetTable.leap mask i q).2
theorem Zfd (mask:Nat):∀ (a b i q:Nat),Zb8 mask (a + b) i q=Zb8 mask b (Zb8 mask a i q).1 (Zb8 mask a i q).2
 | 0,b,i,q=>by rw[Nat.zero_add];rfl
 | a + 1,b,i,q=>by rw[Nat.succ_add];exact Zfd mask a b _ _
theorem lineAt_q (mask:Nat):∀ (k i q:Nat),(Zb8 mask k i q).2=q / 32 ^ k
 | 0,i,q=>by simp[Zb8]
 | k + 1,i,q=>by rw[show Zb8 mask (k + 1) i q=Zb8 mask k (SetTable.leap mask i q).1 (SetTable.leap mask i q).2 from rfl,lineAt_q mask k];show q / 32 / 32 ^ k=_;rw[Nat.div_div_eq_div_mul,Nat.pow_succ,Nat.mul_comm]
noncomputable def stp (mask i:Nat):Nat:=(i * 5 + 1) % (mask + 1)
noncomputable def orb (mask:Nat):Nat->Nat->Nat
 | 0,i=>i
 | k + 1,i=>orb mask k (stp mask i)
theorem Zix (mask:Nat):∀ (k i:Nat),Zb8 mask k i 0=(orb mask k i,0)
 | 0,i=>rfl
 | k + 1,i=>by have:=Zix mask k (stp mask i);show Zb8 mask k (SetTable.leap mask i 0).1 (SetTable.leap mask i 0).2=_;rw[show SetTable.leap mask i 0=(stp mask i,0) from by rfl];exact this
theorem Zgy (mask:Nat):∀ (k i q:Nat),i<=mask->(Zb8 mask k i q).1<=mask
 | 0,i,q,h=>h
 | k + 1,i,q,h=>Zgy mask k _ _ (by show (i * 5 + 1 + q / 32) % (mask + 1)<=mask;have:=Nat.mod_lt (i * 5 + 1 + q / 32) (show 0 < mask + 1 from Nat.succ_pos mask);(exact Nat.le_of_lt_succ ‹_›))
theorem orb_add (mask:Nat):∀ (a b i:Nat),orb mask (a + b) i=orb mask b (orb mask a i)
 | 0,b,i=>by rw[Nat.zero_add];rfl
 | a + 1,b,i=>by rw[Nat.succ_add];exact orb_add mask a b _
noncomputable def Zp7 (mask:Nat):Bool:=(orb mask (mask + 1) 0 == 0) && (List.range (mask + 1)).all λj=>(List.range (mask + 1)).any λk=>orb mask k 0 == j
noncomputable abbrev Mk (mask:Nat):Prop:=mask=7\/mask=31\/mask=127
theorem Zmc {mask:Nat} (h:Mk mask):Zp7 mask=true:=by rcases h with rfl | rfl | rfl <;> decide +kernel
theorem Zqs {mask i j:Nat} (h:Mk mask) (hi:i<=mask) (hj:j<=mask):∃ k,k<=mask + 1/\orb mask k i=j:=by
 have c:=Zmc h;unfold Zp7 at c;rw[Bool.and_eq_true,List.all_eq_true]at c;have c0:orb mask (mask + 1) 0=0:=by simpa using c.1
 have get:∀ x,x<=mask->∃ k,k<=mask/\orb mask k 0=x:=λx hx=>by have:=c.2 x (List.mem_range.mpr (by (exact F20 0x680748750 0x11 rfl hx)));rw[List.any_eq_true]at this;refine aa this λk hk e=>?_;exact ⟨k,by have:=List.mem_range.mp hk;(exact Nat.le_of_lt_succ ‹_›),by simpa using e⟩
 refine aa (get i hi) λa ha ea=>?_;refine aa (get j hj) λb hb eb=>?_;rcases Nat.le_total a b with h1 | h1
 .refine ⟨b - a,by (exact F30 0x690759850970a 0x1110 rfl hb),?_⟩;(rw[←ea,←orb_add,show a + (b - a)=b from by (exact F20 0x978069850781a 0x1101101010101001 rfl h1)];exact eb)
 .refine ⟨(mask + 1 - a) + b,by (exact F30 0x690a7058a50985076801a 0x11011010 rfl ha h1),?_⟩;(rw[←ea,←orb_add,show a + (mask + 1 - a + b)=(mask + 1) + b from by (exact F30 0xa6900a70806985076801a 0x110011010101001 rfl ha),orb_add,c0];exact eb)
theorem Zgx {mask i q j:Nat} (h:Mk mask) (hi:i<=mask) (hq:q < 2 ^ 64) (hj:j<=mask):∃ k,k < mask + 15/\(Zb8 mask k i q).1=j:=by refine aa (Zqs h (Zgy mask 13 i q hi) hj) λk hk e=>?_;refine ⟨13 + k,by (exact F20 0xf4807d404680750 0x11 rfl hk),?_⟩;rw[Zfd,lineAt_q,Nat.div_eq_of_lt (Nat.lt_of_lt_of_le hq (by decide)),Zix];exact e
structure TOk (t:SetTable) (n:Nat):Prop where
 plain:t.plain=true
 dum:t.dummies = #[]
 sz:t.place.size=n
 rise:Rise t.place
 le:∀ x ∈ t.place.toList,x<=t.mask
 mk7:Mk t.mask
theorem Zls (j:Nat):SetTable.has #[] j=false:=by rfl
theorem TOk.live {t:SetTable}{n j:Nat} (T:TOk t n) (h:j ∈ t.place.toList):∃ i,t.slot j = .live i:=by
 obtain ⟨i,hi,e⟩:=List.mem_iff_getElem.mp h;have hx:t.place[i]?=some j:=by rw[<-Array.getElem?_toList,List.getElem?_eq_getElem hi,e]
 refine ⟨i,?_⟩;unfold SetTable.slot;dsimp only;refine ((Zi8 T.rise hx).1).symm▸hx.symm▸?_;simp
theorem TOk.empty {t:SetTable}{n j:Nat} (T:TOk t n) (h:j ∉ t.place.toList):t.slot j = .empty:=by
 unfold SetTable.slot;have:(t.place[SetTable.below t.place j]? == some j)=false:=by refine beq_eq_false_iff_ne.2 ?_;intro e;exact h (by refine Array.mem_toList_iff.2 ?_;exact Array.mem_of_getElem? e)
 dsimp only;rw[this,T.dum,Zls];rfl
noncomputable def Zgj (mask i q:Nat):SetTable.Probe:={ j:=i,more:=SetTable.runEnd mask i - i,i,perturb:=q,dummy:=none }
noncomputable abbrev Found (t:SetTable) (o:Option SetTable.Met):Prop:=∃ j,o=some (.empty j none)/\j ∉ t.place.toList/\j<=t.mask
theorem Zq1 {t:SetTable}{n:Nat} (T:TOk t n) {h:Int}:∀ (r fuel:Nat) (p:SetTable.Probe),p.more=r->p.dummy=none->p.j + r<=t.mask ->
  Found t (SetTable.probe.go t (λ_=>h + 1) h (fuel + r + 1) p)\/(p.j ∈ t.place.toList/\SetTable.probe.go t (λ_=>h + 1) h (fuel + r + 1) p=SetTable.probe.go t (λ_=>h + 1) h fuel (Zgj t.mask (SetTable.leap t.mask p.i p.perturb).1 (SetTable.leap t.mask p.i p.perturb).2)):=
 λr=>Nat.strongRecOn r λr go fuel p hm hd hb=>by
  by_cases ho:p.j ∈ t.place.toList
  .obtain ⟨i,hi⟩:=T.live ho;have hh:(h + 1 == h)=false:=by refine beq_eq_false_iff_ne.2 ?_;(exact F01 0x767092 0x1 rfl)
   have st:SetTable.probe.go t (λ_=>h + 1) h (fuel + r + 1) p=SetTable.probe.go t (λ_=>h + 1) h (fuel + r) (t.advance p):=by rw[SetTable.probe.go,hi];dsimp only;refine hh▸?_;rfl
   refine st▸?_;cases r with
   | zero=>
    refine .inr ⟨ho,?_⟩;congr 1;delta SetTable.advance Zgj;rw[hm,hd];rfl
   | succ r=>
    have ea:t.advance p={ p with j:=p.j + 1,more:=r }:=by unfold SetTable.advance;refine hm▸(if_pos (Nat.succ_pos r))▸?_;rfl
    refine ea▸?_;rcases go r (Nat.lt_succ_self r) fuel { p with j:=p.j + 1,more:=r } rfl hd (by show p.j + 1 + r<=t.mask;(exact F30 0x986700596807050 0x11 rfl hb)) with x | x
    .exact .inl x
    .exact .inr ⟨ho,x.2⟩
  .refine .inl ⟨p.j,?_,ho,by (exact F30 0x975987050 0x11 rfl hb)⟩;rw[SetTable.probe.go,T.empty ho];dsimp only;rw[hd]
theorem Zkw {mask i:Nat} (h:i<=mask):i + (SetTable.runEnd mask i - i)<=mask/\SetTable.runEnd mask i - i<=9:=by unfold SetTable.runEnd;split <;> lia
theorem Zlc {mask i q:Nat}:(SetTable.leap mask i q).1<=mask:=by show (i * 5 + 1 + q / 32) % (mask + 1)<=mask;have:=Nat.mod_lt (i * 5 + 1 + q / 32) (show 0 < mask + 1 from Nat.succ_pos mask);(exact Nat.le_of_lt_succ ‹_›)
theorem Zor {t:SetTable}{n:Nat} (T:TOk t n) {h:Int}:∀ (k fuel i q:Nat),10 * k<=fuel->i<=t.mask ->
  Found t (SetTable.probe.go t (λ_=>h + 1) h fuel (Zgj t.mask i q))\/∀ m,m < k->(Zb8 t.mask m i q).1 ∈ t.place.toList:=by
 intro r_
 induction r_ with
 | zero=>
  intro fuel i q _ _;exact .inr λm hm=>absurd hm (Nat.not_lt_zero m)
 | succ k ih=>
  intro fuel i q hf hi;have hr:=Zkw hi;have ef:fuel=(fuel - (SetTable.runEnd t.mask i - i) - 1) + (SetTable.runEnd t.mask i - i) + 1:=by (exact F30 0x6b700a694b50a690a250671a981a 0x10000100110010011001000010011001001111010010001011001010 rfl hf hr.2)
  refine ef▸?_;rcases Zq1 T (h:=h) (SetTable.runEnd t.mask i - i) (fuel - (SetTable.runEnd t.mask i - i) - 1) (Zgj t.mask i q) rfl rfl hr.1 with x | ⟨x1,x2⟩
  .exact .inl x
  .rw [x2];rcases ih (fuel - (SetTable.runEnd t.mask i - i) - 1) _ _ (by (exact F40 0xa7a2569a00860949508670a250 0x10111 rfl hf hr.2 ef)) (Zlc (i:=i) (q:=q)) with y | y
   .exact .inl y
   .refine .inr λm hm=>?_;cases m with
    | zero=>exact x1
    | succ m=>exact y m (by (exact Nat.le_of_lt_succ ‹_›))
theorem Zmk (h:Int):SetTable.bits h < 2 ^ 64:=by
 unfold SetTable.bits;have h1:=Int.emod_nonneg h (show (2 ^ 64:Int)≠0 by decide);have h2:=Int.emod_lt_of_pos h (show (0:Int) < 2 ^ 64 by decide)
 (exact Zqf ‹_› ‹_›)
theorem TOk.room {t:SetTable}{n:Nat} (T:TOk t n) (hn:n<=t.mask):∃ j,j<=t.mask/\j ∉ t.place.toList:=by
 refine Classical.byContradiction λhc=>?_;have:=Zb0 (l:=List.range (t.mask + 1)) (l':=t.place.toList) List.nodup_range λx hx=>Classical.byContradiction λh=>hc ⟨x,by have:=List.mem_range.mp hx;(exact Nat.le_of_lt_succ ‹_›),h⟩;rw[List.length_range,Array.length_toList,T.sz]at this
 (exact F20 0x37680508750 0x11 rfl hn this)
theorem Zhy {t:SetTable}{n:Nat} (T:TOk t n) (hn:n<=t.mask) (h:Int):∃ j,t.freeSlot h=some (j,false)/\j ∉ t.place.toList/\j<=t.mask:=by
 refine aa (T.room hn) λj0 a b=>?_;have hi:SetTable.bits h % (t.mask + 1)<=t.mask:=by have:=Nat.mod_lt (SetTable.bits h) (show 0 < t.mask + 1 from Nat.succ_pos _);(exact Nat.le_of_lt_succ ‹_›)
 rcases Zor T (h:=h) (t.mask + 15) (10 * SetTable.turns t.mask) (SetTable.bits h % (t.mask + 1)) (SetTable.bits h) (Nat.le_refl _) hi with ⟨j,e,x⟩ | x
 .refine ⟨j,?_,x⟩;delta SetTable.freeSlot SetTable.probe;rw[show t.probeStart h=Zgj t.mask (SetTable.bits h % (t.mask + 1)) (SetTable.bits h) from rfl,e];rfl
 .refine aa (Zgx T.mk7 hi (Zmk h) a) λk hk e=>?_;exact absurd (x k hk) (by rw[e];exact b)
theorem Zb3 {α:Type} (xs:Array α) (p:Nat) (x : α):(SetTable.insertAt xs p x).size=xs.size + 1:=by rw[<-Array.length_toList,(SetTable.insertAt_perm xs p x).length_eq];simp
theorem Zlg {t:SetTable}{n:Nat}{es:Array (Int × Value)} (T:TOk t n) (hes:es.size=n) (hn:n + 1<=t.mask) (h:Int) (x:Value) :
  ∃ p t',layNew t es h x=(SetTable.insertAt es p (h,x),t',false,false)/\TOk t' (n + 1)/\t'.mask=t.mask/\t'.led=t.led:=by
 refine hide λ_ Z=>?_;refine ae (Zhy T (by (exact Nat.le_of_lt ‹_›)) h) λj e hj hjm=>?_;apply Z;clear Z;have T':TOk { t with place:=SetTable.insertAt t.place (SetTable.below t.place j) j } (n + 1):=
  ⟨T.plain,T.dum,by show (SetTable.insertAt _ _ _).size=_;rw[Zb3,T.sz],Zhr T.rise hj,λy hy=>by
   have hy':=(SetTable.insertAt_perm t.place (SetTable.below t.place j) j).mem_iff.mp hy;rw[Array.toList_push]at hy';rcases List.mem_append.mp hy' with h1 | h1
   .exact T.le y h1
   .rw [List.mem_singleton]at h1;rw[h1];exact hjm,T.mk7⟩
 have ep:t.put j=({ t with place:=SetTable.insertAt t.place (SetTable.below t.place j) j },SetTable.below t.place j):=by unfold SetTable.put;dsimp only;(refine T.dum▸?_;rw[Zls]);rfl
 have hf:SetTable.fits { t with place:=SetTable.insertAt t.place (SetTable.below t.place j) j } (n + 1)=true:=by delta SetTable.fits SetTable.fill;rw[Bool.and_eq_true];refine ⟨by rw[T'.sz];simp,?_⟩;show decide ((SetTable.insertAt t.place (SetTable.below t.place j) j).size + t.dummies.size<=t.mask)=true;rw[Zb3,T.sz,T.dum];exact decide_eq_true hn
 refine ⟨SetTable.below t.place j,_,?_,T',rfl,rfl⟩;unfold layNew;rw[e];dsimp only;refine ep▸?_;dsimp only;rw[Zb3,hes];unfold SetTable.orStandIn;refine hf.symm▸?_;rfl
/-! relaid -/
noncomputable def Zbt (mask:Nat) (owner:Array (Option Nat)):List (Nat × Nat):=(List.range (mask + 1)).filterMap λj=>(owner.getD j none).map (j,·)
structure OOk (mask:Nat) (owner:Array (Option Nat)) (k:Nat):Prop where
 sz:owner.size=mask + 1
 lv:((Zbt mask owner).map (·.2)).Perm (List.range k)
theorem Zoj {mask j:Nat}{owner:Array (Option Nat)} (hj:j<=mask) (h:owner.getD j none≠none):j ∈ (Zbt mask owner).map (·.1):=by
 cases e:owner.getD j none with
 | none=>exact absurd e h
 | some k=>exact List.mem_map.mpr ⟨(j,k),List.mem_filterMap.mpr ⟨j,List.mem_range.mpr (by (exact F20 0x680748750 0x11 rfl hj)),by rw[e];rfl⟩,rfl⟩
theorem OOk.room {mask k:Nat}{owner:Array (Option Nat)} (O:OOk mask owner k) (hk:k<=mask):∃ j,j<=mask/\owner.getD j none=none:=by
 refine Classical.byContradiction λhc=>?_;have:=Zb0 (l:=List.range (mask + 1)) (l':=(Zbt mask owner).map (·.1)) List.nodup_range λx hx=>Zoj (by have:=List.mem_range.mp hx;(exact Nat.le_of_lt_succ ‹_›)) λe=>hc ⟨x,by have:=List.mem_range.mp hx;(exact Nat.le_of_lt_succ ‹_›),e⟩;have l:=O.lv.length_eq;rw[List.length_map]at this l;rw[List.length_range]at this l
 (exact F30 0x379609680508750 0x111 rfl hk this l)
theorem Zjo {mask k:Nat}{owner:Array (Option Nat)} (O:OOk mask owner k):∀ (fuel i q:Nat),i<=mask ->
  (∃ j,SetTable.layClean.free mask owner fuel i q=some j/\j<=mask/\owner.getD j none=none)\/∀ m,m < fuel->owner.getD (Zb8 mask m i q).1 none≠none:=by
 intro r_
 induction r_ with
 | zero=>
  intro i q _;exact .inr λm hm=>absurd hm (Nat.not_lt_zero m)
 | succ fuel ih=>
  intro i q hi;rw[SetTable.layClean.free];cases e:(List.range (SetTable.runEnd mask i + 1 - i)).find? λk=>(owner.getD (i + k) (some 0)).isNone with
  | some k'=>
   refine .inl ⟨i + k',rfl,?_⟩;have h1:=List.find?_some e;have h2:i + k' < owner.size:=by
    rcases Nat.lt_or_ge (i + k') owner.size with h | h
    .exact h
    .simp [Array.getD,Nat.not_lt.mpr h]at h1
   have h3:=O.sz;refine ⟨by (exact F40 0xa87056a0960987040 0x1011 rfl h2 h3),?_⟩
   simpa [Array.getD,h2] using h1
  | none=>
   have h0:=List.find?_eq_none.mp e 0 (List.mem_range.mpr (by unfold SetTable.runEnd;split <;> (first | exact F10 0x704476947000a 0x101 rfl | exact F10 0x704476700a 0x101 rfl)));have hs:=O.sz;have h1:owner.getD i none≠none:=by
    simpa [Array.getD,show i < owner.size from by (exact F30 0x9746809608750 0x1101 rfl hi hs)] using h0
   rcases ih _ _ (Zlc (mask:=mask) (i:=i) (q:=q)) with x | x
   .exact .inl x
   .refine .inr λm hm=>?_;cases m with
    | zero=>exact h1
    | succ m=>exact x m (by (exact Nat.le_of_lt_succ ‹_›))
theorem Zq3 {mask k:Nat}{owner:Array (Option Nat)} (O:OOk mask owner k) (hm:Mk mask) (hk:k<=mask) (h:Int):∃ j,SetTable.layClean.free mask owner (SetTable.turns mask) (SetTable.bits h % (mask + 1)) (SetTable.bits h)=some j/\j<=mask/\owner.getD j none=none:=by
 refine hide λ_ Z=>?_;have hi:SetTable.bits h % (mask + 1)<=mask:=by have:=Nat.mod_lt (SetTable.bits h) (show 0 < mask + 1 from Nat.succ_pos _);(exact Nat.le_of_lt_succ ‹_›)
 refine aa (O.room hk) λj0 a b=>?_;apply Z;clear Z;rcases Zjo O (SetTable.turns mask) _ (SetTable.bits h) hi with x | x
 .exact x
 .refine hide λ_ Z=>?_;refine aa (Zgx hm hi (Zmk h) a) λk hk e=>?_;apply Z;clear Z;exact absurd b (by refine e▸?_;exact x k hk)
theorem Zcq {α β:Type}{f g : α->Option β}:∀ {l:List α},(∀ x ∈ l,f x=g x)->l.filterMap f=l.filterMap g
 | [],_=>rfl
 | a :: l,h=>by rw[List.filterMap_cons,List.filterMap_cons,h a (.head _),Zcq λx hx=>h x (.tail _ hx)]
theorem OOk.step {mask k j:Nat}{owner:Array (Option Nat)} (O:OOk mask owner k) (hj:j<=mask) (e:owner.getD j none=none):OOk mask (owner.setIfInBounds j (some k)) (k + 1):=by
 have hs:=O.sz;refine ⟨by simpa using hs,?_⟩;have hmem:j ∈ List.range (mask + 1):=List.mem_range.mpr (by lia);have hp:=List.perm_cons_erase hmem;have hne:∀ x ∈ (List.range (mask + 1)).erase j,x≠j:=λx hx h=>by subst h;exact (List.nodup_cons.mp (hp.nodup_iff.mp List.nodup_range)).1 hx
 have g1:∀ x,x≠j->(owner.setIfInBounds j (some k)).getD x none=owner.getD x none:=λx hx=>by simp[Array.getD_eq_getD_getElem?,Array.getElem?_setIfInBounds_ne (Ne.symm hx)]
 have g2:(owner.setIfInBounds j (some k)).getD j none=some k:=by simp[Array.getD_eq_getD_getElem?,Array.getElem?_setIfInBounds_self,show j < owner.size from by (exact F30 0x9746809608750 0x1101 rfl hj hs)]
 have e1:(Zbt mask (owner.setIfInBounds j (some k))).Perm ((j,k) :: ((List.range (mask + 1)).erase j).filterMap λj=>(owner.getD j none).map (j,·)):=by refine (hp.filterMap _).trans ?_;rw[List.filterMap_cons_some (b:=(j,k)) (by rw[g2];rfl)];refine .cons _ (.of_eq (Zcq λx hx=>by exact congrArg _ (g1 x (hne x hx))))
 have e2:(Zbt mask owner).Perm (((List.range (mask + 1)).erase j).filterMap λj=>(owner.getD j none).map (j,·)):=by refine (hp.filterMap _).trans ?_;rw[List.filterMap_cons_none (by rw[e];rfl)]
 have e3:=(e2.map (·.2)).symm.trans O.lv;refine (e1.map (·.2)).trans ?_;rw[List.map_cons,show List.range (k + 1)=List.range k ++ [k] from List.range_succ];exact (List.Perm.cons k e3).trans (List.perm_append_singleton k _).symm
theorem Zhv {mask:Nat} (hm:Mk mask):∀ (hs:List Int) (owner:Array (Option Nat)) (k:Nat),OOk mask owner k->k + hs.length<=mask ->
  ∃ owner',(hs.foldl (λ(acc:Option (Array (Option Nat) × Nat)) h=>do
   let (owner,k) <-acc;let j <-SetTable.layClean.free mask owner (SetTable.turns mask) (SetTable.bits h % (mask + 1)) (SetTable.bits h)
   pure (owner.setIfInBounds j (some k),k + 1)) (some (owner,k)))=some (owner',k + hs.length)/\OOk mask owner' (k + hs.length):=by
 intro r_
 induction r_ with
 | nil=>
  intro owner k O _;exact ⟨owner,rfl,O⟩
 | cons h hs ih=>
  intro owner k O hk;refine hide λ_ Z=>?_;simp only[List.length_cons]at hk;refine ae (Zq3 O hm (by (exact F30 0x97596807050 0x11 rfl hk)) h) λj e hj hn=>?_;refine aa (ih _ (k + 1) (O.step hj hn) (by (exact F30 0x986700596807050 0x11 rfl hk))) λowner' e' O'=>?_;apply Z;clear Z;refine ⟨owner',?_,?_⟩
  .refine List.foldl_cons.trans ?_
   have:(do
    let (owner,k) <-some (owner,k);let j <-SetTable.layClean.free mask owner (SetTable.turns mask) (SetTable.bits h % (mask + 1)) (SetTable.bits h)
    pure (owner.setIfInBounds j (some k),k + 1):Option (Array (Option Nat) × Nat))=some (owner.setIfInBounds j (some k),k + 1):=by
    show (SetTable.layClean.free mask owner _ _ _).bind _=_;rw[e];rfl
   rw[this,e',List.length_cons,Nat.add_right_comm,Nat.add_assoc]
  .rw [List.length_cons,show k + (hs.length + 1)=k + 1 + hs.length from by (exact F20 0x86700680706 0x11 rfl)];exact O'
theorem Zhs {t:SetTable}{n wanted:Nat}{es:Array (Int × Value)} (T:TOk t n) (hes:es.size=n) (hm:Mk (SetTable.sizeAbove wanted - 1)) (hn:n<=SetTable.sizeAbove wanted - 1) :
  ∃ es' t',relayAll t es wanted=(es',t',false)/\TOk t' n/\t'.mask=SetTable.sizeAbove wanted - 1/\t'.led=t.led:=by
 generalize hmask:SetTable.sizeAbove wanted - 1=mask at *;have O0:OOk mask (Array.replicate (mask + 1) none) 0:=by
  refine ⟨by simp,?_⟩;have:Zbt mask (Array.replicate (mask + 1) none)=[]:=by unfold Zbt;refine List.filterMap_eq_nil_iff.2 ?_;intro j hj;have:=List.mem_range.mp hj;simp[Array.getD,this]
  rw[this];exact .refl _
 refine aa (Zhv hm (es.map (·.1)).toList _ 0 O0 (by simp;(exact F30 0x97598508760 0x1101 rfl hes hn))) λowner e O=>?_;have hl : 0 + (es.map (·.1)).toList.length=n:=by simp[hes]
 rw[hl]at e O;have ec:SetTable.layClean mask (es.map (·.1))=some owner:=by unfold SetTable.layClean;rw[<-Array.foldl_toList];have:=congrArg (Option.map (·.1)) e;exact this
 have er:t.relaid (es.map (·.1)) wanted=some ({ mask,place:=((Zbt mask owner).map (·.1)).toArray,dummies:=#[],finger:=t.finger,led:=t.led,moves:=t.movedTo mask,plain:=t.plain },((Zbt mask owner).map (·.2)).toArray):=by delta SetTable.relaid SetTable.laid;refine hmask.symm▸ec.symm▸?_;rfl
 have hlen:(Zbt mask owner).length=n:=by have:=O.lv.length_eq;simpa using this
 have T':TOk { mask,place:=((Zbt mask owner).map (·.1)).toArray,dummies:=#[],finger:=t.finger,led:=t.led,moves:=t.movedTo mask,plain:=t.plain } n:=by
  have sub:∀ (l:List Nat),l.Pairwise (· < ·)->((l.filterMap λj=>(owner.getD j none).map (j,·)).map (·.1)).Pairwise (· < ·):=λl hl=>by
   rw[List.map_filterMap];refine List.Pairwise.filterMap _ (λa b hab a' ha b' hb=>?_) hl;cases h1:owner.getD a none with
   | none=>rw[h1]at ha;cases ha
   | some x=>cases h2:owner.getD b none with
    | none=>rw[h2]at hb;cases hb
    | some y=>rw[h1]at ha;rw[h2]at hb;cases ha;cases hb;exact hab
  refine ⟨T.plain,rfl,by simp[hlen],?_,λx hx=>?_,hm⟩
  .show List.Pairwise _ (((Zbt mask owner).map (·.1)).toArray).toList;exact sub _ List.pairwise_lt_range
  .obtain ⟨⟨a,b⟩,h1,rfl⟩:=List.mem_map.mp (show x ∈ (Zbt mask owner).map (·.1) from hx);refine aa (List.mem_filterMap.mp h1) λj h2 h3=>?_;cases h4:owner.getD j none with
   | none=>rw[h4]at h3;cases h3
   | some y=>rw[h4]at h3;cases h3;have:=List.mem_range.mp h2;show a<=mask;(exact Nat.le_of_lt_succ ‹_›)
 refine ⟨((Zbt mask owner).map (·.2)).toArray.filterMap (es[·]?),_,?_,T',rfl,rfl⟩;have pz:=relayAll_perm t es wanted;unfold relayAll at pz ⊢;rw[er]at pz ⊢;dsimp only at pz ⊢;have hc:coversAll ((Zbt mask owner).map (·.2)).toArray es.size=true:=by unfold coversAll;rw[hes];exact List.isPerm_iff.mpr O.lv
 rw[hc]at pz ⊢;rw[Bool.true_and]at pz ⊢;have hsz:(((Zbt mask owner).map (·.2)).toArray.filterMap (es[·]?)).size=n:=by refine Array.length_toList▸Array.toList_filterMap▸?_;have:=(O.lv.filterMap (es[·]?)).length_eq;rw[show (List.range n)=List.range es.size from by rw[hes],filterMap_getElem?_range]at this;exact (this.trans (Array.length_toList.trans (hes)))
 have hf:SetTable.fits { mask,place:=((Zbt mask owner).map (·.1)).toArray,dummies:=#[],finger:=t.finger,led:=t.led,moves:=t.movedTo mask,plain:=t.plain } (((Zbt mask owner).map (·.2)).toArray.filterMap (es[·]?)).size=true:=by rw[hsz];delta SetTable.fits SetTable.fill;rw[Bool.and_eq_true];refine ⟨by rw[T'.sz];simp,?_⟩;have:=T'.sz;dsimp only at this ⊢;refine this▸?_;exact decide_eq_true hn
 refine hf.symm▸?_;rfl
set_option maxRecDepth 1000000
noncomputable def ent (p:Int × Tok):Int × Value:=(hashInt p.1,.int p.1 p.2)
structure TSet (o:Obj) (led:Bool) (ks:List Int):Prop where
 ex:o.ExactSet
 da:∃ (es:Array (Int × Value)) (ep:Nat) (t:SetTable) (L:List (Int × Tok)),o.data = .set es ep t/\es.toList=L.map ent/\(L.map (·.1)).Perm ks/\TOk t ks.length/\t.led=led/\ks.length * 5 < t.mask * 3
noncomputable def Zeu (e:Int × Value):Int × Tok:=match e.2 with | .int i u=>(i,u) | _=>(0,0)
theorem Ziq {l:List (Int × Value)}{L:List (Int × Tok)} (h:l.Perm (L.map ent)):l=(l.map Zeu).map ent/\(l.map Zeu).Perm L:=by
 refine ⟨?_,?_⟩
 .rw [List.map_map];refine (List.map_id' l).symm.trans (List.map_congr_left λe he=>?_);obtain ⟨p,_,rfl⟩:=List.mem_map.mp (h.mem_iff.mp he);rfl
 .have:=h.map Zeu
  rwa [List.map_map,show (Zeu ∘ ent)=_root_.id from rfl,List.map_id]at this
theorem TOk.fits {t:SetTable}{n:Nat} (T:TOk t n) (h:n * 5 < t.mask * 3):t.fits n=true:=by delta SetTable.fits SetTable.fill;rw[Bool.and_eq_true];refine ⟨by rw[T.sz];simp,?_⟩;refine T.sz▸T.dum▸?_;exact decide_eq_true (by show n + 0<=t.mask;lia)
theorem Zl4 (L:List (Int × Tok)):ElemsOf (intKind PW W0) (L.map ent):=λe he=>by obtain ⟨p,_,rfl⟩:=List.mem_map.mp he;exact ⟨⟨p.1,by simp[intKind,Value.isInt,ent],rfl⟩,rfl⟩
section
variable {A:Around}{E:ET}{s:Shared}
theorem Zgh {a:Addr}{o:Obj}{es es':Array (Int × Value)}{ep:Nat}{t t':SetTable}{h:Heap} (ho:h.get? a=some o) (hd:o.data = .set es ep t):(h.update a (Obj.putSet es' t')).get? a=some { o with data:=.set es' (ep + 1) t' }:=by have:=Heap.get?_update_self (Obj.putSet es' t') ho (by rw[putSet_of es' t' hd];rfl);rw[putSet_of es' t' hd]at this;exact this
theorem Zjj {a:Addr}{o:Obj}{led:Bool}{ks:List Int}{k:Int}{tk:Tok}{Q:ET} (ho:s.heap.get? a=some o) (T:TSet o led ks) (hk:k ∉ ks) (hn:ks.length + 1<=61)
  (h:∀ h' o',Heap.SameBut a s.heap h'->h'.get? a=some o'->TSet o' led (k :: ks)->Q .none { s with heap:=h',toks:=s.toks + 1 }) :
  wpAny (model PW W0) A (call (.builtin "set.add") [.ref a,.int k tk]) Q E s:=by
 refine hide λ_ Z=>?_;obtain ⟨hex,es,ep,t,L,hd,hes,hp,T,hl,hfew⟩:=T;apply Z;clear Z;have hlen:es.size=ks.length:=by rw[<-Array.length_toList,hes,List.length_map,<-hp.length_eq,List.length_map]
 have hT:s.TypeIs (.ref a) "set" := ⟨o,ho,hex.1⟩;have hkey:(intKind PW W0).is k (.int k tk)=true:=by simp[intKind,Value.isInt]
 have hf:t.fits es.size=true:=by rw[hlen];exact T.fits hfew
 have hel:ElemsOf (intKind PW W0) es.toList:=by rw[hes];exact Zl4 L
 have hb:es.size < scanBound:=by have:scanBound=4096:=rfl;lia
 refine wpAny_call_entry F.slot_set_add hT F.entry_set_add ?_ (F.args_set_add_2 _ _);delta Builtin.«set.add» Builtin.Frozenset.oneOther;simp only[List.isEmpty_nil,bind_assoc];delta Builtin.Frozenset.addrOf setAdd;refine wB (wP ?_)
 try dsimp only
 refine wB (wP ?_)
 try dsimp only
 refine wB (wpAny_holding (wB ((intKind PW W0).pyHash hkey ?_)));unfold setAddHashed setAddHashedIn;refine wpAny_holding (wB (wpAny_setState_of (s:={ s with toks:=s.toks + 1 }) ho hd hf ?_));dsimp only;refine (byScan_of (knd:=intKind PW W0) (x:=.int k tk) rfl hb hel).symm▸?_;simp only[↓reduceIte];unfold setAddByScan;refine wB (wB (wpAny_rule (wB (wpAny_setScan_of (s:={ s with toks:=s.toks + 1 }) hkey ho hd hf hel ?_))));have hr:List.findIdx? (λe=>(intKind PW W0).is k e.2) es.toList=none:=by
  rw[List.findIdx?_eq_none_iff,hes];intro e he;obtain ⟨p,hp',rfl⟩:=List.mem_map.mp he;refine Bool.eq_false_iff.mpr λe=>hk (hp.mem_iff.mp ?_);have:p.1=k:=by simpa [intKind,Value.isInt,ent] using e
  exact this ▸ List.mem_map.mpr ⟨p,hp',rfl⟩
 refine hr▸?_;dsimp only;refine hide λ_ Z=>?_;have h8:ks.length + 1<=t.mask:=by rcases T.mk7 with e | e | e <;> lia
 refine aq (Zlg T hlen h8 ((intKind PW W0).hash k) (.int k tk)) λpp t' eL T' hm' hl'=>?_;apply Z;clear Z;refine eL▸?_;dsimp only;refine wB (wP ?_);rw[if_pos T'.plain,hashByValue_scannable 8 rfl];refine wB (wP ?_);have hpt:(if plainKind (.int k tk)=true then t' else { t' with plain:=false })=t':=rfl;refine hpt.symm▸?_;have hz1:(SetTable.insertAt es pp ((intKind PW W0).hash k,Value.int k tk)).size=ks.length + 1:=by rw[Zb3,hlen]
 have hes1:(SetTable.insertAt es pp ((intKind PW W0).hash k,Value.int k tk)).toList=((L.take pp) ++ (k,tk) :: L.drop pp).map ent:=by rw[SetTable.toList_insertAt,hes,List.map_append,List.map_cons,List.map_take,List.map_drop];rfl
 have hp1:(((L.take pp) ++ (k,tk) :: L.drop pp).map (·.1)).Perm (k :: ks):=by refine (List.perm_middle.map _).trans ?_;rw[List.map_cons,List.take_append_drop];exact .cons _ hp
 generalize SetTable.insertAt es pp ((intKind PW W0).hash k,Value.int k tk)=es1 at hz1 hes1 ⊢;refine wB (wpAny_storeSet_of (s:={ s with toks:=s.toks + 1 }) ho hd ?_ (by rw[hz1];have:=sizeLine_eq;lia));have ho1:=Zgh (es':=es1) (t':=t') ho hd;have hs1:=Heap.SameBut.update s.heap a (Obj.putSet es1 t');have hff:t'.fill=ks.length + 1:=by unfold SetTable.fill;rw[T'.sz,T'.dum];rfl
 by_cases hfull:t'.tooFull=true
 .have hc:(!false && t'.tooFull)=true:=by rw[hfull];rfl
  rw[if_pos hc];refine hide λ_ Z=>?_;have hfu:t'.mask * 3<=(ks.length + 1) * 5:=by
   unfold SetTable.tooFull at hfull;rw[hff]at hfull
   simpa using hfull
  have hgr:Mk (SetTable.sizeAbove (SetTable.grown es1.size) - 1)/\(ks.length + 1) * 5 < (SetTable.sizeAbove (SetTable.grown es1.size) - 1) * 3:=by
   refine hz1.symm▸?_;rcases T.mk7 with e | e | e
   .have:ks.length=4:=by lia
    refine this▸?_;decide
   .have:ks.length=18:=by lia
    refine this▸?_;decide
   .lia
  refine aq (Zhs (es:=es1) T' hz1 hgr.1 (by lia)) λes2 t2 eR T2 hm2 hl2=>?_;apply Z;clear Z;have pz:=relayAll_perm t' es1 (SetTable.grown es1.size);rw[eR]at pz ⊢;dsimp only at pz ⊢;refine wB (wP ?_);have hz2:es2.size=ks.length + 1:=by exact (Array.length_toList.symm.trans (pz.length_eq.trans (Array.length_toList.trans (hz1))))
  refine wB (wpAny_storeSet_of (s:={ s with toks:=s.toks + 1,heap:=s.heap.update a (Obj.putSet es1 t') }) ho1 rfl ?_ (by rw[hz2];have:=sizeLine_eq;lia));have ho2:=Zgh (es':=es2) (t':=t2) ho1 rfl;have hs2:=hs1.trans (Heap.SameBut.update (s.heap.update a (Obj.putSet es1 t')) a (Obj.putSet es2 t2));obtain ⟨q1,q2⟩:=Ziq (hes1 ▸ pz);exact wP (wP (wP ⟨_,rfl,h _ _ hs2 ho2 ⟨hex,es2,_,t2,_,rfl,q1,(q2.map (·.1)).trans hp1,T2,by exact (hl2.trans (hl'.trans (hl))),by rw[hm2];exact hgr.2⟩⟩))
 .have hc:(!false && t'.tooFull)=false:=by rw[Bool.not_eq_true _ |>.mp hfull];rfl
  refine hc.symm▸(if_neg Bool.false_ne_true).symm▸?_;have hfu:(ks.length + 1) * 5 < t'.mask * 3:=by
   unfold SetTable.tooFull at hfull;rw[hff]at hfull
   simpa using hfull
  exact wP (wP (wP ⟨_,rfl,h _ _ hs1 ho1 ⟨hex,es1,_,t',_,rfl,hes1,hp1,T',by exact (hl'.trans (hl)),hfu⟩⟩))
theorem Zqn {Q₁:ET} (h:Q₁ (.ref s.heap.objs.size) { s with heap:=s.heap.push { cls:=.type "set",dict:=none,data:=.set #[] 0 (.fresh 0 0 (!(W0.params.followText "set-order"))) } }) :
  codeAny (model PW W0) A (.call (.builtin "set.__new__") ⟨[.type "set"],[]⟩) (wants Q₁ E) s:=by
 refine codeAny_of_tree ?_;show wpAny _ A.in1 (do checkBuiltinCall "set.__new__" ⟨[.type "set"],[]⟩;again (.builtin "set.__new__" ⟨[.type "set"],[]⟩)) _ _ s;refine wB (wpAny_of_eq F.newCall_set_0 (wP ⟨plainId_quiet F.plain_set_new _,codeAny_builtin F.entry_set_new ?_⟩));rw[Around.under_plainId F.plain_set_new _];delta Builtin.«set.__new__» Builtin.Frozenset.newClass;have hsub:=sub_set_self;obtain ⟨hp,g,d,tk,os⟩:=s;dsimp only
 wp_walk
 refine wpAny_askSetting (wP ?_);dsimp only;dsimp only[newObj];exact wB (wpAny_alloc (wP (wP h)))
end
noncomputable abbrev set0 (W0:World):Obj:={ cls:=.type "set",dict:=none,data:=.set #[] 0 (.fresh 0 0 (!(W0.params.followText "set-order"))) }
noncomputable abbrev ledW (W0:World):Bool:=!(W0.params.followText "set-order")
theorem TSet.new (W0:World):TSet (set0 W0) (ledW W0) []:=⟨⟨rfl,rfl,rfl⟩,#[],0,_,[],rfl,rfl,.refl _,⟨rfl,rfl,rfl,List.Pairwise.nil,(λx hx=>by cases hx),.inl rfl⟩,rfl,(show 0 * 5 < 7 * 3 by decide)⟩
section
variable {K:Frag}
theorem Zmg {s:Shared}{Q:ET} (h:Q (.ref s.heap.objs.size) { s with heap:=s.heap.push (set0 W0) }):wpAny (model PW W0) A (call (.type "set") []) Q E s:=by
 refine aU F.called_set.mro λc tl hmro=>?_;have hmade:=F.called_set.made;have hsub:=F.called_set.sub;refine wpAny_call (codeAny_of_tree ?_);show wpAny _ _ (callAny (.type "set") _) _ _ _;refine wP ⟨Code.quiet_builtin _ (by decide +kernel),codeAny_builtin F.entry_type_call ?_⟩;rw[Around.under_plain (weight_type_call_type "set" [] []) rfl];have h1:=F.called_set.notType;have h2:=F.called_set.canCreate;have hct:=F.typeCall_set_0
 repeat (any_goals (first | assumption | wp_step))
 refine codeAny_mono (Zqn (E:=E) (Q₁:=λobj s₁=>obj = .ref s.heap.objs.size/\s₁={ s with heap:=s.heap.push (set0 W0) }) ⟨rfl,rfl⟩) λr s₁ hr=>?_;cases r with
 | error e=>exact hr
 | ok fl=>
  cases fl with
  | ret obj=>
   obtain ⟨rfl,rfl⟩:=hr;have hS:(s.heap.push (set0 W0)).get? s.heap.objs.size=some (set0 W0):=Heap.get?_push_size _ rfl;have hT:Shared.TypeIs { s with heap:=s.heap.push (set0 W0) } (.ref s.heap.objs.size) "set" := ⟨_,hS,rfl⟩;have hli:=F.called_set.init.lookup;have hbi:=F.called_set.init.bind (.ref s.heap.objs.size)
   repeat (any_goals (first | assumption | wp_step))
   refine codeAny_mono (codeAny_call_builtin (R:=wants (λr sV=>r = .none/\Q (.ref s.heap.objs.size) sV) E) F.called_set.init.plain F.entry_set_init (check_set_init hT ?_)) λrV sV hrV=>?_
   .delta Builtin.«set.__init__» noKeywords
    wp_walk
    exact ⟨rfl,h⟩
   .cases rV with
    | error e=>exact hrV
    | ok flV=>
     cases flV with
     | ret r=>
      obtain ⟨rfl,hq⟩:=hrV
      repeat (any_goals (first | assumption | wp_step))
     | _=>exact hrV.elim
  | _=>exact hr.elim
theorem TSet.notImm {o:Obj}{led:Bool}{ks:List Int} (T:TSet o led ks):¬ Imm o:=λi=>by obtain ⟨_,_,_,_,hd,_⟩:=T.da;obtain ⟨_,_,_,e⟩:=i;rw[hd]at e;cases e
theorem Zrq {func:Expr} {pos}{Q:QV}
  (h:EV (model PW W0) A E B env func m hp λf hp₁=>f = .ty "set" /\ ∀ a,hp₁ a=none->a≠env.locals->Q (.ref a) (hp₁.set a (.obj (set0 W0))))
  (hc:eval (.Call func [] [] pos) env=(do callWith pos (<-eval func env) [] (backTo pos (starEach [] env)) (backToKw pos (keywordEach [] env))):=by rfl):EV (model PW W0) A E B env (.Call func [] [] pos) m hp Q:=λs r=>by
 refine Call_ (h.use r λu s₁ f hp₁ r₁ le₁ hu yq=>?_) hc;obtain ⟨hf,q⟩:=yq;subst hf;simp only[VR]at hu;subst hu;refine PyProof.Rows.callWith_type0 (Zmg ?_);have n:=r₁.newAt (set0 W0) (.obj (set0 W0)) ⟨Heap.get?_push_size _ rfl,(TSet.new W0).notImm⟩;exact mkV (av:=.ref _) n.1 (le₁.trans n.2.2.2) VR_ref (q _ n.2.1 n.2.2.1)
theorem Zkh {a:Addr}{o:Obj}{led:Bool}{ks:List Int}{k:Int}{Q:QV} (ha:hp a=some (.obj o)) (haL:a≠env.locals) (T:TSet o led ks) (hk:k ∉ ks) (hn:ks.length + 1<=61) (h:∀ o',TSet o' led (k :: ks)->Q .none (hp.set a (.obj o'))) :
  CL (model PW W0) A E B env (.builtin "set.add") m [.ref a,.int k] hp Q:=λs vs r hv=>by
 refine ad (Zbg hv) λv u V h1 h2=>?_;subst V;simp only[VR]at h1 h2;subst h1;obtain ⟨t,rfl⟩:=h2;refine Zjj (r.at ha haL).1 T hk hn λh' o' hs ho' T'=>?_;have x:=r.turn (a:=a) (Hp.snt haL ha) hs (.obj o') (λ_=>⟨ho',T'.notImm⟩) (s.toks + 1);rw[Hp.sc _ _ _ (Ne.symm haL)]at x;exact mkV x.1 x.2 VR_none (h o' T')
theorem Zqy {d:Addr}{o:Obj}{led:Bool}{ks:List Int} (hd:hp d=some (.obj o)) (hL:d≠env.locals) (T:TSet o led ks):∀ s,Rel B (hp.set env.locals (.ns m)) s->∃ ob,s.heap.get? d=some ob/\ob.cls = .type "set" /\ ob.dict=none:=λs r=>⟨o,(r.at hd hL).1,T.ex.1,T.ex.2.1⟩
/-! del d[k] -/
noncomputable def Zci (kvs:List (Int × AV)) (k:Int):List (Int × AV):=kvs.filter λkv=>decide (kv.1≠k)
theorem KVR.without {h:Heap}{k:Int}:∀ {kvs:List (Int × AV)}{ps:List (Int × Value)},KVR h kvs ps->KVR h (Zci kvs k) (without ps k):=by
 intro r_
 induction r_ with
 | nil=>
  intro ps x;have:ps=[]:=List.map_eq_nil_iff.mp x.1;subst this;exact ⟨rfl,by rfl⟩
 | cons kv_ kvs ih=>
  obtain ⟨k',v⟩:=kv_;intro ps x;refine ad (KVR.cons x) λu r V hv x'=>?_;subst V;have ih:=ih x';dsimp only[Zci,PySem.without]at *;by_cases e:k'=k
  .rw [List.filter_cons_of_neg (by simp[e]),List.filter_cons_of_neg (by simp[e])];exact ih
  .rw [List.filter_cons_of_pos (by exact if_pos e),List.filter_cons_of_pos (by exact if_pos e)];exact KVR.mk_cons hv ih
theorem Zg8 (kvs:List (Int × AV)) (k k':Int):dget (Zci kvs k) k'=if k'=k then none else dget kvs k':=by
 delta dget Zci
 induction kvs with
 | nil=>simp
 | cons a r ih=>
  by_cases e:a.1=k
  .rw [List.filter_cons_of_neg (by simp[e]),ih];by_cases e':k'=k
   .rw [if_pos e',if_pos e']
   .rw [if_neg e',if_neg e',List.find?_cons_of_neg (by simp;lia)]
  .rw [List.filter_cons_of_pos (by exact if_pos e)];by_cases e':a.1=k'
   .rw [List.find?_cons_of_pos (by exact if_pos e'),if_neg (by lia),List.find?_cons_of_pos (by exact if_pos e')]
   .rw [List.find?_cons_of_neg (by simp[e']),ih];by_cases e'':k'=k
    .rw [if_pos e'',if_pos e'']
    .rw [if_neg e'',if_neg e'',List.find?_cons_of_neg (by simp[e'])]
theorem Zkc {o i:Expr} {pos spos}{Q:QX}
  (h:EV (model PW W0) A E B env o m hp λov hp₁=>EV (model PW W0) A E B env i m hp₁ λiv hp₂=>∃ d kvs k,ov = .ref d/\iv = .int k/\hp₂ d=some (.dict kvs)/\d≠env.locals/\kvs.length<=5000/\dget kvs k≠none/\Q .next m (hp₂.set d (.dict (Zci kvs k)))) :
  EX (model PW W0) A E B env (.Delete [.Subscript o i pos] spos) m hp Q:=λs r=>by
 refine wpAny_Delete (wpAny_deleteEach_cons (PyProof.Rows.delete_Subscript (h.use r λov s₁ av hp₁ r₁ le₁ hov q=>q.use r₁ λiv sV bv hp₂ rV leV hiv x=>?_)));refine hide λ_ Z=>?_;obtain ⟨d,kvs,k,rfl,rfl,hd,hL,hlen,hin,q⟩:=x;have hki:=Zc5 hiv;simp only[VR]at hov;subst hov;refine aa (rV.dict hd hL) λps hD hK=>?_;have hsome:(valueAt ps k).isSome=true:=by
  cases e:dget kvs k with
  | none=>exact absurd e hin
  | some x=>obtain ⟨u,hu,_⟩:=(hK.get (k:=k)).1 x e;rw[hu];rfl
 apply Z;clear Z;have hT:=(hD PW W0).typeIs (s:=sV);unfold delItem
 try with_reducible refine wpAny_holding ?_
 refine wB (wpAny_sequenceKey hT (by decide) ?_)
 refine wB (wpAny_callSpecial?_slot (name:=PySem.Str.ofString "__delitem__") hT PySem.F.slot_dict_delitem
  (call_meetsIn PySem.F.slot_dict_delitem hT PySem.F.entry_dict_delitem (PySem.F.args_dict_delitem_2 _ _) (meets_dict_delitem_pairs (intKind PW W0) d hki) ⟨ps,hD PW W0,(by rw[hK.length];have:=sizeLine_eq;(exact Nat.le_trans ‹_› (by decide))),hsome,λh' hmm hs=>?_⟩))
 have x:=rV.putDict (kvs':=Zci kvs k) hd hL hmm hs (λle=>(hK.mono le).without) (sV.toks + 1);exact wP (wpAny_deleteEach_nil ⟨.next,m,_,x.1,(le₁.trans leV).trans x.2,rfl,q⟩)
end
set_option maxRecDepth 100000
theorem Zjk {α:Type}{l:List α}{i:Nat} (h:i < l.length):(l[i] :: l.eraseIdx i).Perm l:=by rw[List.eraseIdx_eq_take_drop_succ];refine List.perm_middle.symm.trans (.of_eq ?_);rw[<-List.drop_eq_getElem_cons h,List.take_append_drop]
theorem Zgn {α:Type} (next:Nat->Nat):∀ (n k:Nat) (left:List α) (out:Array α),left.length=n->(pickOrder.go next n k left out).toList.Perm (out.toList ++ left)
 | 0,k,left,out,h=>by have:left=[]:=List.length_eq_zero_iff.mp h;subst this;rw[List.append_nil];exact .refl _
 | n + 1,k,left,out,h=>by
  have hi:next k % left.length < left.length:=Nat.mod_lt _ (by (exact F20 0x7044680760 0x110 rfl h))
  rw[pickOrder.go,List.getElem?_eq_getElem hi];refine (Zgn next n (k + 1) _ _ (by rw[List.length_eraseIdx_of_lt hi];(exact F20 0x976690860671a 0x10001110101011011001 rfl h))).trans ?_;rw[Array.toList_push,List.append_assoc];exact .append_left _ (Zjk hi)
section
variable {K:Frag}
noncomputable def ordA (W0:World) (a:Addr) (es:Array (Int × Value)) (ep:Nat):Array (Int × Value):=if W0.params.followText "set-order" = true then pickOrder (W0.params.setOrder a ep) es else es
theorem Zgp (W0:World) (a:Addr) (es:Array (Int × Value)) (ep:Nat):(ordA W0 a es ep).toList.Perm es.toList:=by
 unfold ordA;split
 .have:=Zgn (W0.params.setOrder a ep) es.size 0 es.toList #[] (by rfl)
  simpa [pickOrder] using this
 .exact .refl _
noncomputable def slA (W0:World) (t:SetTable):Nat->Nat
 | 0=>0
 | i + 1=>if W0.params.followText "set-order" = true then 0 else t.place.getD i 0 + 1
theorem Zqm (W0:World) (t:SetTable) (i:Nat):slA W0 t (i + 1)=if W0.params.followText "set-order" = true then 0 else t.place.getD i 0 + 1:=rfl
theorem Zns (h:W0.params.followText "set-order" = true) (t:SetTable):∀ i,slA W0 t i=0
 | 0=>rfl
 | i + 1=>by (rw[Zqm];exact (if_pos h))
theorem Znt {a:Addr}{o:Obj}{es:Array (Int × Value)}{ep i:Nat}{t:SetTable}{s:Shared}{Q:Option (Value × Nat)->Shared->Prop} (ho:s.heap.get? a=some o) (hd:o.data = .set es ep t) (hf:t.fits es.size=true) (T:TOk t es.size) (hl:t.led=ledW W0) (hi:i<=es.size)
  (h:Q ((ordA W0 a es ep)[i]?.map λe=>(e.2,slA W0 t (i + 1))) s):wpAny (model PW W0) A (setNext a (slA W0 t i) i ep) Q E s:=by
 unfold setNext;refine wB (wpAny_setState_of ho hd hf ?_);refine wB (Zdb ?_);by_cases hb:W0.params.followText "set-order" = true
 .rw [if_pos hb,if_neg (by simp)];refine wB ?_;unfold setWalk;refine wB (wpAny_setState_of ho hd hf ?_);refine wB (Zdb ?_);rw[if_pos hb];refine wB (wpAny_askSetting (wP (wP ?_)));rw[Zns hb]at h ⊢;unfold ordA at h;rw[if_pos hb]at h;exact h
 .rw [if_neg hb];have hbf:W0.params.followText "set-order" = false:=by simpa using hb
  split
  .rename_i h';have h2:(!t.plain && decide (es.size > 1))=true:=h';rw[T.plain]at h2;cases h2
  .show wpAny _ _ ((if (!t.led && !es.isEmpty)=true then unsupported "set:maker-not-led" else pure ()) >>= λ_=>_) _ _ _;have hled:t.led=true:=by rw[hl];unfold ledW;rw[hbf];rfl
   rw[if_neg (by rw[hled];nofun)];refine wB (wP ?_);have hbelow:SetTable.below t.place (slA W0 t i)=i:=by
    cases i with
    | zero=>exact Zjw T.rise
    | succ i=>
     rw[Zqm,if_neg hb];have hi':i < t.place.size:=by rw[T.sz];assumption
     have hx:t.place[i]?=some t.place[i]:=Array.getElem?_eq_getElem hi';rw[Zdw hx];exact (Zi8 T.rise hx).2
   dsimp only;refine hbelow.symm▸?_;refine wP ?_;unfold ordA at h;rw[if_neg hb]at h;rcases Nat.lt_or_ge i es.size with h1 | h1
   .have h2:i < t.place.size:=by rw[T.sz];exact h1
    rw[Array.getElem?_eq_getElem h1,Array.getElem?_eq_getElem h2];rw[Array.getElem?_eq_getElem h1]at h;rw[Zqm,if_neg hb,Zdw (Array.getElem?_eq_getElem h2)]at h;exact h
   .rw [Array.getElem?_eq_none h1]at h ⊢;exact h
noncomputable abbrev itSt (W0:World) (t:SetTable) (a:Addr) (n ep i:Nat) (o:Obj):Prop:=o.cls = .type "set_iterator" /\ o.data = .fields #[rawInt (slA W0 t i),rawInt i,.ref a,rawInt n,rawInt ep]
theorem Zlm {a:Addr}{o:Obj}{es:Array (Int × Value)}{ep:Nat}{t:SetTable}{s:Shared}{Q:ET} (ho:s.heap.get? a=some o) (hex:o.ExactSet) (hd:o.data = .set es ep t) (hf:t.fits es.size=true) (hpl:t.plain=true)
  (hQ:Q (.ref s.heap.objs.size) { s with heap:=s.heap.push { cls:=.type "set_iterator",data:=.fields #[rawInt 0,rawInt 0,.ref a,rawInt es.size,rawInt ep] } }):wpAny (model PW W0) A (pyIter (.ref a)) Q E s:=by
 have hT:s.TypeIs (.ref a) "set" := ⟨o,ho,hex.1⟩;refine wpAny_pyIter_slot hT F.slot_set_iter (wpAny_call_entry F.slot_set_iter hT Ze4 ?_ (F.args_set_iter_1 _));delta Builtin.«frozenset.__iter__» Builtin.Frozenset.slot0 slotArgs;simp only[List.isEmpty_nil,Bool.not_true,Bool.false_eq_true,↓reduceIte,bind_assoc,List.length_nil,bne_self_eq_false];delta Builtin.Frozenset.addrOf Builtin.Frozenset.sizeOf;refine wB (wP ?_)
 try dsimp only
 refine wB (wP ?_);refine wB (wB (wpAny_setEntries_of ho hd hf (wP ?_)));unfold setDrawn;refine wB (wB (wpAny_setState_of ho hd hf ?_));refine wB (Zdb (wP ?_));split
 .rename_i h;have h':(!W0.params.followText "set-order" && (!t.plain && decide (es.size > 1)))=true:=h;rw[hpl]at h';simp at h'
 .refine wB (wP (wB (wpAny_setEpoch_of ho hd hf ?_)));exact wB (wpAny_newObj_type (wP ⟨_,rfl, "set_iterator",_,⟨_,Heap.get?_push_size _ rfl,rfl⟩,slot_si_next.lookup,hQ⟩))
theorem Zgs {a it:Addr}{o ob:Obj}{es:Array (Int × Value)}{ep i:Nat}{t:SetTable}{s:Shared}{Q:Option Value->Shared->Prop} (hh:A.handled=none) (ho:s.heap.get? a=some o) (hd:o.data = .set es ep t) (hf:t.fits es.size=true) (T:TOk t es.size) (hl:t.led=ledW W0) (hi:i<=es.size) (hai:it≠a)
  (hit:s.heap.get? it=some ob) (hst:itSt W0 t a es.size ep i ob)
  (hQ:match (ordA W0 a es ep)[i]? with | some e=>∀ h' ob',h'.get? it=some ob'->itSt W0 t a es.size ep (i + 1) ob'->Heap.SameBut it s.heap h'->Q (some e.2) { s with heap:=h' } | none=>∀ h',Heap.ExtBut it s.heap h'->Q none { s with heap:=h' }):wpAny (model PW W0) A (pyNext (.ref it)) Q E s:=by
 have hT:s.TypeIs (.ref it) "set_iterator" := ⟨_,hit,hst.1⟩;unfold pyNext;refine wB (wpAny_attempt (wpAny_callSpecial?_slot (name:=PySem.Str.ofString "__next__") hT slot_si_next (wpAny_call_entry slot_si_next hT Zfz ?_ (Zhd _))));show wpAny _ _ (fieldsOf (.ref it) >>= _) _ _ s;refine wB (wpAny_fieldsOf hit hst.2 ?_);dsimp only;refine wB (wpAny_setEntries_of ho hd hf ?_);have hne:((es.size:Int) != (es.size:Int))=false:=by simp
 simp only[rawInt];refine hne▸(if_neg Bool.false_ne_true)▸?_;refine wB (wpAny_mono (Q:=λr s'=>r=((ordA W0 a es ep)[i]?.map λe=>(e.2,slA W0 t (i + 1)))/\s'=s) (E:=λ_ _=>False) ?_ ?_ ?_)
 .simp only [Int.toNat_natCast];exact Znt ho hd hf T hl hi ⟨rfl,rfl⟩
 .rintro r s' ⟨rfl,rfl⟩;cases e:(ordA W0 a es ep)[i]? with
  | some x=>
   rw[e]at hQ;dsimp only [Option.map]at hQ ⊢;refine wB (wpAny_setField hit hst.2 (by simp) ?_);have h1:(s'.heap.update it (Obj.mapFields (·.setIfInBounds 0 (rawInt (slA W0 t (i + 1)))))).get? it=some (Obj.mapFields (·.setIfInBounds 0 (rawInt (slA W0 t (i + 1)))) ob):=Heap.get?_update_self _ hit (Obj.isFreed_of_fields (Obj.data_mapFields hst.2 _));refine wB (wpAny_setField (s:={ s' with heap:=s'.heap.update it (Obj.mapFields (·.setIfInBounds 0 (rawInt (slA W0 t (i + 1))))) }) h1 (Obj.data_mapFields hst.2 _) (by simp) ?_);refine wP ⟨x.2,rfl,wP (hQ _ _ (Heap.get?_update_self _ h1 (Obj.isFreed_of_fields (Obj.data_mapFields (Obj.data_mapFields hst.2 _) _))) ⟨(Obj.cls_mapFields ..).trans ((Obj.cls_mapFields ..).trans hst.1),?_⟩ ((Heap.SameBut.update ..).trans (Heap.SameBut.update ..)))⟩;rw[Obj.data_mapFields (Obj.data_mapFields hst.2 _)];rfl
  | none=>
   rw[e]at hQ;dsimp only [Option.map]at hQ ⊢;refine wB (wpAny_setField hit hst.2 (by simp) ?_);show wpAny _ _ (newExc (.type "StopIteration") [] >>= _) _ _ _;refine wB ?_;simp only[newExc,newTuple];refine wB (wpAny_newObj_type ?_ (by size_fits));refine wB (m:=firstArgMember _ _) (wpAny_of_eq (a:=Value.none) (by rfl) ?_);refine wpAny_newObj_type ?_ (by size_fits);dsimp only [raiseNew];refine wB (wpAny_handled ?_);rw[show A.in1.handled=none from hh];refine wB (wP (wpAny_throw ?_));refine wB (wpAny_isInstance (T := "StopIteration") (b:=true) ⟨_,Heap.get?_push_size _ rfl,rfl⟩ isSubtype_stop ?_);exact wP (hQ _ (((Heap.SameBut.update ..).extBut.push _).push _))
 .exact λ_ _ x=>x.elim
noncomputable abbrev Zpa (PW:Program) (W0:World) (A:Around) (B:Shared) (env:Env) (target:Expr) (body:List Stmt) (m:Loc) (hp₁:Hp) (Q:QX) (a:Addr) (ob:Obj) (n it:Addr) (ord:List Int):Prop:=
 ∃ I:Nat->Loc->Hp->Prop,(∀ o,I 0 m (hp₁.set it (.obj o)))/\(∀ i m₂ hp₂ o,I i m₂ hp₂->I i m₂ (hp₂.set it (.obj o)))/\(∀ i m₂ hp₂,I i m₂ hp₂->hp₂ a=some (.obj ob)) /\
  (∀ i k m₂ hp₂ o,ord[i]?=some k->I i m₂ hp₂->hp₂ it=some (.obj o)->ASG (model PW W0) A (λ_ _=>False) B env target (.int k) m₂ hp₂ λmX hpX=>EXs (model PW W0) A (λ_ _=>False) B env body mX hpX λfl mj hpj=>
   match fl with | .next | .cont=>I (i + 1) mj hpj/\hpj it=some (.obj o) | .brk=>Q .next mj hpj | .ret v=>Q (.ret v) mj hpj) /\
  ∀ m₂ hp₂,I n m₂ hp₂->Q .next m₂ (hp₂.del it)
theorem Zka {target iter:Expr}{body:List Stmt} {pos}{Q:QX} (hh:A.handled=none)
  (h:EV (model PW W0) A E B env iter m hp λo hp₁=>∃ a ob ks,o = .ref a/\hp₁ a=some (.obj ob)/\a≠env.locals/\TSet ob (ledW W0) ks/\∀ it (ord:List Int),ord.Perm ks->hp₁ it=none->it≠env.locals->Zpa PW W0 A B env target body m hp₁ Q a ob ks.length it ord)
  (hs:∀ x,foldedSetIterable iter env x=pure x:=by intro _;rfl) :
  EX (model PW W0) A E B env (.For target iter body [] pos) m hp Q:=λs r=>by
 refine wpAny_For (h.use r λu s₁ o hp₁ r₁ le₁ hu x=>?_) hs;refine hide λ_ Z=>?_;obtain ⟨a,o,ks,rfl,ha,hL,T,x⟩:=x;simp only[VR]at hu;subst hu;obtain ⟨hex,es,ep,t,L,hd,hes,hpm,T,hl,hfew⟩:=T;have hlen:es.size=ks.length:=by rw[<-Array.length_toList,hes,List.length_map,<-hpm.length_eq,List.length_map]
 have ho:=(r₁.at ha hL).1;have hf:t.fits es.size=true:=by rw[hlen];exact T.fits hfew
 apply Z;clear Z;rw[<-hlen]at T x;refine Zlm ho hex hd hf T.plain ?_;refine hide λ_ Z=>?_;have n:=r₁.newAt { cls:=.type "set_iterator",data:=.fields #[rawInt 0,rawInt 0,.ref a,rawInt es.size,rawInt ep] } (.obj { cls:=.type "set_iterator",data:=.fields #[rawInt 0,rawInt 0,.ref a,rawInt es.size,rawInt ep] }) ⟨Heap.get?_push_size _ rfl,λi=>by obtain ⟨_,_,_,e⟩:=i;cases e⟩;have hai:=Hp.ne_of ha n.2.1;have hpo:=Ziq ((Zgp W0 a es ep).trans (.of_eq hes));have hord:(((ordA W0 a es ep).toList.map Zeu).map (·.1)).Perm ks:=(hpo.2.map (·.1)).trans hpm;have hoz:(ordA W0 a es ep).size=es.size:=by exact (Array.length_toList.symm.trans (((Zgp W0 a es ep).length_eq).trans (Array.length_toList)))
 refine aI (x s₁.heap.objs.size _ hord n.2.1 n.2.2.1) λI i0 iset iat iturn ifin=>?_;apply Z;clear Z;have hoe:∀ (i:Nat) (e:Int × Value),(ordA W0 a es ep)[i]?=some e->∃ tk,e.2 = .int ((((ordA W0 a es ep).toList.map Zeu).map (·.1)).getD i 0) tk:=λi e he=>by
  rw[<-Array.getElem?_toList]at he;have h1:(((ordA W0 a es ep).toList.map Zeu).map (·.1)).getD i 0=(Zeu e).1:=by rw[List.getD_eq_getElem?_getD,List.getElem?_map,List.getElem?_map,he];rfl
  have h2:e ∈ ((ordA W0 a es ep).toList.map Zeu).map ent:=by refine hpo.1▸?_;exact List.mem_of_getElem? he
  obtain ⟨p,_,rfl⟩:=List.mem_map.mp h2;refine h1▸?_;exact ⟨p.2,rfl⟩
 refine Zgb (n:=es.size) (el:=λi=>.int ((((ordA W0 a es ep).toList.map Zeu).map (·.1)).getD i 0)) (st:=λi ob=>itSt W0 t a es.size ep i ob) (I:=I) n.2.2.1 (λi ob x i'=>by obtain ⟨_,_,_,e⟩:=i';rw[x.2]at e;cases e) (λi m₂ hp₂ s' ob hi hI hob hst r' E' W k=>?_) (λm₂ hp₂ s' ob hI hob hst r' E' W k=>?_) iset (λi m₂ hp₂ ob hi hI hob=>iturn i _ m₂ hp₂ ob ?_ hI hob) ifin (λfl af m' hp' s' r' le' hf' q=>⟨af,m',hp',r',le',hf',q⟩) (i0 _) (Hp.ss ..) ⟨rfl,rfl⟩ n.1 (le₁.trans n.2.2.2) (λ_ _ x=>⟨_,x.1,rfl⟩)
 .have hi':i < (ordA W0 a es ep).size:=by rw[hoz];exact hi
  refine Zgs hh (r'.at (iat _ _ _ hI) hL).1 hd hf T hl (Nat.le_of_lt hi) (Ne.symm hai) (r'.at hob n.2.2.1).1 hst ?_;rw[Array.getElem?_eq_getElem hi'];obtain ⟨tk,e⟩:=hoe i _ (Array.getElem?_eq_getElem hi');dsimp only;exact λh' ob' hg hst' hs'=>k _ h' s'.toks ob' (by rw[e];exact VR_int) hg hst' hs'
 .refine Zgs hh (r'.at (iat _ _ _ hI) hL).1 hd hf T hl (Nat.le_refl _) (Ne.symm hai) (r'.at hob n.2.2.1).1 hst ?_;rw[Array.getElem?_eq_none (by rw[hoz];exact Nat.le_refl _)];exact λh' he=>k h' s'.toks he
 .have hi':i < (((ordA W0 a es ep).toList.map Zeu).map (·.1)).length:=by rw[List.length_map,List.length_map,Array.length_toList,hoz];exact hi
  rw[List.getD_eq_getElem?_getD,List.getElem?_eq_getElem hi'];rfl
end
theorem Hp.del_le (hp:Hp) (a:Addr):Hp.Le (hp.del a) hp:=λz o e=>by
 by_cases h:z=a
 .subst h;simp[Hp.del]at e
 .rw [Hp.del_ne _ h]at e;exact e
structure JD (hp:Hp) (L d:Addr) (J:Int->List Nat):Prop where
 ex:∃ kvs,hp d=some (.dict kvs)/\d≠L/\(∀ k,dget kvs k=none->J k=[])/\∀ k v,dget kvs k=some v->∃ a,v = .ref a/\hp a=some (.list ((J k).map λ(i:Nat)=>AV.int (i:Int)))/\a≠L/\J k≠[]
theorem JD.le {hp hp':Hp}{L d:Addr}{J:Int->List Nat} (R:JD hp L d J) (le:Hp.Le hp hp'):JD hp' L d J:=by refine ap R.ex λkvs h1 h2 h3 h4=>?_;exact ⟨kvs,le _ _ h1,h2,h3,λk v hk=>by refine ae (h4 k v hk) λa e ha haL=>?_;exact ⟨a,e,le _ _ ha,haL⟩⟩
theorem JD.move {hp hp':Hp}{L L' d:Addr}{J:Int->List Nat} (R:JD hp L d J) (h:∀ z o,hp z=some o->(∀ m,o≠.ns m)->z≠L->hp' z=some o/\z≠L'):JD hp' L' d J:=by refine ap R.ex λkvs h1 h2 h3 h4=>?_;have x:=h _ _ h1 (by nofun) h2;refine ⟨kvs,x.1,x.2,h3,λk v hk=>?_⟩;refine ae (h4 k v hk) λa e ha haL=>?_;have y:=h _ _ ha (by nofun) haL.1;exact ⟨a,e,y.1,y.2,haL.2⟩
theorem JD.put {hp:Hp}{L d c:Addr}{J:Int->List Nat}{o:AO}{ma:Loc} (R:JD hp L d J) (h:hp c=some (.atr ma)):JD (hp.set c o) L d J:=by refine hide λ_ Z=>?_;refine ap R.ex λkvs h1 h2 h3 h4=>?_;apply Z;clear Z;refine ⟨kvs,Hp.snt (λe=>by rw[e,h]at h1;cases h1) h1,h2,h3,λk v hk=>?_⟩;refine hide λ_ Z=>?_;refine ae (h4 k v hk) λa e ha haL=>?_;apply Z;clear Z;exact ⟨a,e,Hp.snt (λe=>by rw[e,h]at ha;cases ha) ha,haL⟩
noncomputable def PJ (bs:List Int) (aj:Bool) (k:Int):List Nat:=if aj=true/\200<=bs.length/\bs.length / 100 + 1 < (idxN bs k).length then [] else idxN bs k
theorem Ztl (bs:List Int) (aj:Bool) (k:Int):(PJ bs aj k).length<=bs.length:=by
 unfold PJ;split
 .simp
 .exact Zfy _ _
theorem Zja (bs:List Int) (aj:Bool) (k:Int):(PJ bs aj k).Pairwise (· < ·):=by
 unfold PJ;split
 .exact List.Pairwise.nil
 .exact List.Pairwise.filter _ List.pairwise_lt_range
inductive Src (B:Shared) (hp:Hp) (L:Addr):AV->List Int->Prop where
 | list {bA:Addr}{bs:List Int} (h:Lst B hp L bA (bs.map .int)):Src B hp L (.ref bA) bs
 | emp:Src B hp L (.str (S "")) []
theorem Src.call {B:Shared}{hp:Hp}{L L':Addr}{m:Loc}{v:AV}{bs:List Int} (x:Src B hp L v bs) (h:hp L'=none):Src B (hp.set L (.ns m)) L' v bs:=by
 cases x with
 | list y=>exact .list (y.call h)
 | emp=>exact .emp
theorem Src.put {B:Shared}{hp:Hp}{L b:Addr}{o:AO}{v:AV}{bs:List Int} (x:Src B hp L v bs) (h:∀ ys,hp b≠some (.list ys)):Src B (hp.set b o) L v bs:=by
 cases x with
 | list y=>exact .list (y.put h)
 | emp=>exact .emp
theorem Src.le {B:Shared}{hp hp':Hp}{L:Addr}{v:AV}{bs:List Int} (x:Src B hp L v bs) (h:Hp.Le hp hp'):Src B hp' L v bs:=by
 cases x with
 | list y=>exact .list (y.le h)
 | emp=>exact .emp
theorem Src.nbi {B:Shared}{hp:Hp}{L:Addr}{v:AV}{bs:List Int} (x:Src B hp L v bs):∀ n,v≠.bi n:=by cases x <;> (intro _ e;cases e)
noncomputable abbrev Pop (bs:List Int) (aj:Bool) (k:Int):Prop:=aj=true/\200<=bs.length/\bs.length / 100 + 1 < (idxN bs k).length
noncomputable abbrev Few (bs:List Int) (aj:Bool):Prop:=aj=false\/bs.length < 200\/∃ ks:List Int,ks.length<=61/\∀ k,bs.length / 100 + 1 < (idxN bs k).length->k ∈ ks
theorem Zlq:∀ {l l':List Int},l.Nodup->(∀ x ∈ l,x ∈ l')->l.length<=l'.length
 | [],_,_,_=>Nat.zero_le _
 | a :: r,l',hn,hs=>by have ha:=hs a (.head _);have ih:=Zlq (l:=r) (l':=l'.erase a) (List.nodup_cons.mp hn).2 λx hx=>(List.mem_erase_of_ne (λe:x=a=>(List.nodup_cons.mp hn).1 (e ▸ hx))).mpr (hs x (.tail _ hx));rw[List.length_erase_of_mem ha]at ih;have:=List.length_pos_of_mem ha;simp only[List.length_cons];(exact F20 0x96805904407850681a 0x1110110110 rfl ih this)
theorem Zl8 {kvs:List (Int × AV)}{k:Int} (h:k ∈ kvs.map (·.1)):dget kvs k≠none:=λe=>Zg9 e h
theorem Zoz {kvs:List (Int × AV)}{k:Int} (h:dget kvs k≠none):k ∈ kvs.map (·.1):=by
 unfold dget at h;cases e:kvs.find? (λkv=>decide (kv.1=k)) with
 | none=>rw[e]at h;exact absurd rfl h
 | some p=>exact List.mem_map.mpr ⟨p,List.mem_of_find?_eq_some e,by simpa using List.find?_some e⟩
structure PopIn (bs:List Int) (kvs:List (Int × AV)) (i:Nat) (ks:List Int):Prop where
 nd:ks.Nodup
 mem:∀ k,k ∈ ks ↔ k ∈ (kvs.take i).map (·.1)/\bs.length / 100 + 1 < (idxN bs k).length
theorem PopIn.step {bs:List Int}{kvs:List (Int × AV)}{i:Nat}{ks:List Int}{k:Int}{v:AV} (P:PopIn bs kvs i ks) (hnd:(kvs.map (·.1)).Nodup) (hkv:kvs[i]?=some (k,v)) :
  k ∉ ks/\(bs.length / 100 + 1 < (idxN bs k).length->PopIn bs kvs (i + 1) (k :: ks))/\(¬ bs.length / 100 + 1 < (idxN bs k).length->PopIn bs kvs (i + 1) ks):=by
 have et:(kvs.take (i + 1)).map (·.1)=(kvs.take i).map (·.1) ++ [k]:=by rw[List.take_add_one,hkv];simp
 have hk:k ∉ (kvs.take i).map (·.1):=λhm=>by have e:=List.take_append_drop (i + 1) kvs;rw[<-e,List.map_append,et]at hnd;have:=(List.nodup_append.mp (List.nodup_append.mp hnd).1).2.2 k hm k (by simp);exact this rfl
 refine ⟨λh=>hk ((P.mem k).mp h).1,λhp=>⟨List.nodup_cons.mpr ⟨λh=>hk ((P.mem k).mp h).1,P.nd⟩,λk'=>?_⟩,λhp=>⟨P.nd,λk'=>?_⟩⟩
 .rw [List.mem_cons,P.mem,et,List.mem_append,List.mem_singleton];constructor
  .rintro (rfl | ⟨h1,h2⟩)
   .exact ⟨.inr rfl,hp⟩
   .exact ⟨.inl h1,h2⟩
  .rintro ⟨h1 | rfl,h2⟩
   .exact .inr ⟨h1,h2⟩
   .exact .inl rfl
 .rw [P.mem,et,List.mem_append,List.mem_singleton];constructor
  .rintro ⟨h1,h2⟩;exact ⟨.inl h1,h2⟩
  .rintro ⟨h1 | rfl,h2⟩
   .exact ⟨h1,h2⟩
   .exact absurd h2 hp
section
theorem B2J.setz {hb hp:Hp}{L d z:Addr}{o:AO}{kvs:List (Int × AV)}{bs:List Int} (R:B2J hb hp L d kvs bs) (hd:d≠z) (ne:∀ k v,dget kvs k=some v->v≠.ref z):B2J hb (hp.set z o) L d kvs bs:=⟨Hp.snt hd R.di,R.dL,R.no,λk v hk=>by
 refine ae (R.yes k v hk) λa V ha r=>?_;subst V
 exact ⟨a,rfl,Hp.snt (λe=>ne k _ hk (by exact congrArg _ e)) ha,r⟩,R.inj,R.len,R.nd,R.ne⟩
theorem B2J.delz {hb hp:Hp}{L d z:Addr}{kvs:List (Int × AV)}{bs:List Int} (R:B2J hb hp L d kvs bs) (hd:d≠z) (ne:∀ k v,dget kvs k=some v->v≠.ref z):B2J hb (hp.del z) L d kvs bs:=⟨by rw[Hp.del_ne _ hd];exact R.di,R.dL,R.no,λk v hk=>by
 refine ae (R.yes k v hk) λa V ha r=>?_;subst V
 exact ⟨a,rfl,by rw[Hp.del_ne _ (λe=>ne k _ hk (by exact congrArg _ e))];exact ha,r⟩,R.inj,R.len,R.nd,R.ne⟩
theorem Zip {hp1 hpA:Hp}{L x dx C j:Addr}{ma ma':Loc}{o:AO} (I:Ins hp1 L x dx C ma) (hj:hp1 j=none) (e:(hp1.set j o).set dx (.atr ma')=hpA):Ins hpA L x dx C ma'/\hpA j=some o/\j≠dx/\∀ z o',z≠dx->hp1 z=some o'->hpA z=some o':=by subst e;have n:=Ne.symm (Hp.ne_of I.at_ hj);exact ⟨(I.le ((Hp.Le.refl hp1).set hj o)).put,Hp.snt n (Hp.ss ..),n,λz o' hz e=>Hp.snt hz (Hp.snt (Hp.ne_of e hj) e)⟩
theorem Src.keep {B:Shared}{hp hp':Hp}{L:Addr}{v:AV}{bs:List Int} (x:Src B hp L v bs) (k:∀ z ys,hp z=some (.list ys)->hp' z=some (.list ys)):Src B hp' L v bs:=by
 cases x with
 | list y=>
  rcases y with ⟨e,hh'⟩ | e
  .exact .list (.inl ⟨k _ _ e,hh'⟩)
  .exact .list (.inr e)
 | emp=>exact .emp
theorem Znb {v:AV}{bs:List Int}{Q:QV} (x:Src B hp env.locals v bs) (hlen:bs.length<=4000) (hq:Q (.int bs.length) hp):CL (model PW W0) A E B env (.builtin "len") m [v] hp Q:=by
 cases x with
 | list y=>exact Zec y (by rw[List.length_map];exact sz' (by (exact Nat.le_trans ‹_› (by decide)))) (by rw[List.length_map];exact hq)
 | emp=>exact Zrv (by decide) hq
noncomputable abbrev Ic (x d:Addr) (bv:AV) (hb:Hp) (L:Addr) (bs:List Int) (m':Loc) (hp':Hp):Prop:=m' (S "self")=some (.ref x)/\m' (S "b")=some bv/\Hp.Le hb hp'/\(∃ kvs,B2J hb hp' L d kvs bs)/\m' (S "b2j")=some (.ref d)
theorem Zju {L x d:Addr}{bv:AV}{bs:List Int} {hb1:Hp}{KK:QX} (G:Gnd (KW W0) B) (hh:A.handled=none) (hl1:Src B hb1 L bv bs) (hbd:hb1 d=none) (hdL:d≠L) (hlen:bs.length<=4000)
  (f1:m (S "self")=some (.ref x)) (f2:m (S "b")=some bv) (f3:m (S "b2j")=some (.ref d)) (hK:∀ m' hp',Ic x d bv hb1 L bs m' hp'->KK .next m' hp') :
  EX (model PW W0) A (λ_ _=>False) B (callEnv Zco L 188) ((Za7 (mS 5)).getD 2 (.Pass ⟨0,0,0,0⟩)) m (hb1.set d (.dict [])) KK:=by
 cases hl1 with
 | @list bA _ hl1'=>
  refine Zkb hh (Zax G (Zk0 W0) Zi7 (by decide) (λ_=>Zeg) ⟨rfl,Zab (Zaa (v:=.ref bA) (by assumption) (Zae ⟨bA,bs.map .int,rfl,hl1'.le ((Hp.Le.refl _).set hbd _),λit en hit hitL hen henL hne=>?_⟩))⟩);have hib:hb1 it=none:=((Hp.Le.refl hb1).set hbd _).none hit;have heb:hb1 en=none:=((Hp.Le.refl hb1).set hbd _).none hen;have hdi:d≠it:=Hp.ne_of (Hp.ss ..) hit;have hden:d≠en:=Hp.ne_of (Hp.ss ..) hen;let Iq:Nat->Loc->Hp->Prop:=λi m₂ hp₂=>m₂ (S "self")=some (.ref x)/\m₂ (S "b")=some (.ref bA)/\m₂ (S "b2j")=some (.ref d)/\Hp.Le hb1 hp₂/\∃ kvs,B2J hb1 hp₂ L d kvs (bs.take i)/\(∀ k v,dget kvs k=some v->v≠.ref it/\v≠.ref en);refine ⟨Iq,λo1 o2=>?_,λi m₂ hp₂ ob x=>?_,λi m₂ hp₂ ob x=>?_,λi m₂ hp₂ x=>hl1'.le x.2.2.2.1,λi y m₂ hp₂ o1 o2 hy x h1 h2=>?_,λm₂ hp₂ x=>?_⟩
  .refine ⟨by assumption,by assumption,by assumption,(((Hp.Le.refl _).set hbd _).set hib _).set heb _,[],⟨?_,hdL,λk _=>rfl,λk v hk=>(by cases hk),λk k' a hk=>(by cases hk),Nat.le_refl _,.nil,λk v hk=>(by cases hk)⟩,λk v hk=>(by cases hk)⟩;exact Hp.snt hden (Hp.snt hdi (Hp.ss ..))
  .refine hide λ_ Z=>?_;obtain ⟨x1,x2,x3,x4,kvs,R,hne'⟩:=x;apply Z;clear Z;exact ⟨x1,x2,x3,x4.set hib _,kvs,R.setz hdi λk v hk=>(hne' k v hk).1,hne'⟩
  .refine hide λ_ Z=>?_;obtain ⟨x1,x2,x3,x4,kvs,R,hne'⟩:=x;apply Z;clear Z;exact ⟨x1,x2,x3,x4.set heb _,kvs,R.setz hden λk v hk=>(hne' k v hk).2,hne'⟩
  .refine hide λ_ Z=>?_;obtain ⟨x1,x2,x3,x4,kvs,R,hne'⟩:=x;obtain ⟨v,hbk,rfl⟩:∃ v,bs[i]?=some v/\AV.int v=y:=by rw[List.getElem?_map]at hy;exact Option.map_eq_some_iff.mp hy
   apply Z;clear Z;have hil:i < bs.length:=(List.getElem?_eq_some_iff.mp hbk).1;have hti:(bs.take i).length=i:=by rw[List.length_take];lia
   have etake:bs.take (i + 1)=bs.take i ++ [v]:=by rw[List.take_add_one,hbk];rfl
   rw[show (AV.tup [.int i,.int v]) = .tup [.int (bs.take i).length,.int v] from by rw[hti]];refine Zjt (x:=v) (tp:=⟨0,0,0,0⟩) G hh x3 R x4 hbd (by lia) h1 h2 λm4 hp4 hmm q1 q2 q3 yq=>?_;refine hide λ_ Z=>?_;obtain ⟨kvs',R'⟩:=yq;apply Z;clear Z;refine ⟨⟨by rw[hmm _ (by decide) (by decide) (by decide)];exact x1,by rw[hmm _ (by decide) (by decide) (by decide)];exact x2,by rw[hmm _ (by decide) (by decide) (by decide)];exact x3,q3,kvs',by rw[etake];exact R',λk u hk=>?_⟩,q1,q2⟩;refine hide λ_ Z=>?_;obtain ⟨a,rfl,ha,_,_⟩:=R'.yes k u hk;apply Z;clear Z;exact ⟨λe=>(by cases e;rw[q1]at ha;cases ha),λe=>(by cases e;rw[q2]at ha;cases ha)⟩
  .refine hide λ_ Z=>?_;obtain ⟨x1,x2,x3,x4,kvs,R,hne'⟩:=x;apply Z;clear Z;rw[List.length_map,List.take_length]at R;exact hK _ _ ⟨x1,x2,x4.del hib,⟨kvs,R.delz hdi λk v hk=>(hne' k v hk).1⟩,x3⟩
 | emp=>
  refine Zhl hh (Zax G (Zk0 W0) Zi7 (by decide) (λ_=>Zeg) ⟨rfl,Zab (Zaa (v:=.str (S "")) (by assumption) (Zae ⟨rfl,?_⟩))⟩);exact hK _ _ ⟨by assumption,by assumption,(Hp.Le.refl _).set hbd _,⟨[],Hp.ss ..,hdL,λk _=>rfl,λk v hk=>(by cases hk),λk k' a hk=>(by cases hk),Nat.le_refl _,.nil,λk v hk=>(by cases hk)⟩,by assumption⟩
noncomputable def popS (i:Nat):Stmt:=(kids ((Za7 (mS 5)).getD 8 (.Pass ⟨0,0,0,0⟩))).getD i (.Pass ⟨0,0,0,0⟩)
theorem Zqr {L d p:Addr}{kvs:List (Int × AV)}{ks:List Int}{ob:Obj}{KK:QX} (hh:A.handled=none) (f3:m (S "b2j")=some (.ref d)) (f4:m (S "popular")=some (.ref p))
  (hpp:hp p=some (.obj ob)) (hpL:p≠L) (T:TSet ob (ledW W0) ks) (hnd:ks.Nodup) (hd4:hp d=some (.dict kvs)) (hdL:d≠L) (hlen:kvs.length<=5000) (hin:∀ k ∈ ks,dget kvs k≠none)
  (hK:∀ m' hp' kvs',(∀ z o,z≠d->hp z=some o->hp' z=some o)->hp' d=some (.dict kvs')->(∀ k,dget kvs' k=if k ∈ ks then none else dget kvs k)->KK .next m' hp') :
  EX (model PW W0) A (λ_ _=>False) B (callEnv Zco L 188) (popS 2) m hp KK:=by
 refine Zka hh (Zaa f4 ⟨p,ob,ks,rfl,hpp,hpL,T,λit ord hord hit hiL=>?_⟩);have hpd:p≠d:=λe=>by replace hpp:=hd4▸e▸hpp;cases hpp
 have hod:ord.Nodup:=hord.nodup_iff.mpr hnd;have hdi:d≠it:=Hp.ne_of hd4 hit;let Iq:Nat->Loc->Hp->Prop:=λi m₂ hp₂=>m₂ (S "b2j")=some (.ref d)/\(∀ z o,z≠d->hp z=some o->hp₂ z=some o)/\∃ kvs',hp₂ d=some (.dict kvs')/\kvs'.length<=5000/\∀ k,dget kvs' k=if k ∈ ord.take i then none else dget kvs k
 refine ⟨Iq,λo=>⟨f3,λz o' _ e=>Hp.snt (Hp.ne_of e hit) e,kvs,Hp.snt hdi hd4,hlen,λk=>by rfl⟩,λi m₂ hp₂ o x=>?_,λi m₂ hp₂ x=>x.2.1 _ _ hpd hpp,λi k m₂ hp₂ o hk x hio=>?_,λm₂ hp₂ x=>?_⟩
 .refine hide λ_ Z=>?_;obtain ⟨x1,x2,kvs',x3,x4,x5⟩:=x;apply Z;clear Z;exact ⟨x1,λz o' hz e=>Hp.snt (Hp.ne_of e hit) (x2 z o' hz e),kvs',Hp.snt hdi x3,x4,x5⟩
 .refine hide λ_ Z=>?_;obtain ⟨x1,x2,kvs',x3,x4,x5⟩:=x;apply Z;clear Z;have hkn:k ∉ ord.take i:=λhm=>by have e:=List.take_append_drop (i + 1) ord;rw[List.take_add_one,hk]at e;replace hod:=e▸hod;exact (List.nodup_append.mp (List.nodup_append.mp hod).1).2.2 k hm k (by simp) rfl
  refine Zai (Zac (Zkc (Zaa (v:=.ref d) (by assumption) (Zaa (v:=.int k) (by rfl) ⟨d,kvs',k,rfl,rfl,x3,hdL,x4,?_,?_⟩))))
  .rw [x5,if_neg hkn];exact hin k (hord.mem_iff.mp (List.mem_of_getElem? hk))
  .refine Zaf ⟨⟨by assumption,λz o' hz e=>Hp.snt hz (x2 z o' hz e),Zci kvs' k,Hp.ss ..,Nat.le_trans (List.length_filter_le _ _) x4,λk'=>?_⟩,Hp.snt (Ne.symm hdi) hio⟩;rw[Zg8,x5,List.take_add_one,hk];by_cases e:k'=k
   .rw [if_pos e,if_pos (by simp[e])]
   .rw [if_neg e];by_cases e':k' ∈ ord.take i
    .rw [if_pos e',if_pos (by simp[e'])]
    .rw [if_neg e',if_neg (by simp[e',e])]
 .refine hide λ_ Z=>?_;obtain ⟨x1,x2,kvs',x3,x4,x5⟩:=x;apply Z;clear Z;replace x5:=List.take_length▸hord.length_eq▸x5;exact hK _ _ kvs' (λz o hz e=>by rw[Hp.del_ne _ (Hp.ne_of e hit)];exact x2 z o hz e) (by rw[Hp.del_ne _ hdi];exact x3) λk=>by
   rw[x5];by_cases e:k ∈ ord
   .rw [if_pos e,if_pos (hord.mem_iff.mp e)]
   .rw [if_neg e,if_neg (λh=>e (hord.mem_iff.mpr h))]
theorem Zn0 {L d p:Addr}{kvs:List (Int × AV)}{bs:List Int}{KK:QX} (G:Gnd (KW W0) B) (hh:A.handled=none) (hn:∃ ks:List Int,ks.length<=61/\∀ k,bs.length / 100 + 1 < (idxN bs k).length->k ∈ ks)
  (k1:m (S "b2j")=some (.ref d)) (k2:m (S "ntest")=some (.int ((bs.length / 100 + 1:Nat):Int))) (k3:m (S "popular")=some (.ref p))
  (hpp:hp p=some (.obj (set0 W0))) (hpL:p≠L) (hd4:hp d=some (.dict kvs)) (hdL:d≠L) (hlen:bs.length<=4000) (hnd:(kvs.map (·.1)).Nodup) (hlist:∀ k v,dget kvs k=some v->∃ a,v = .ref a/\hp a=some (.list (idxs bs k))/\a≠L)
  (hK:∀ m' hp' ob ks,m' (S "b2j")=some (.ref d)->m' (S "popular")=some (.ref p)->hp' p=some (.obj ob)->TSet ob (ledW W0) ks->PopIn bs kvs kvs.length ks->hp' d=some (.dict kvs)->(∀ z o,z≠p->hp z=some o->hp' z=some o)->KK .next m' hp') :
  EX (model PW W0) A (λ_ _=>False) B (callEnv Zco L 188) (popS 1) m hp KK:=by
 refine hide λ_ Z=>?_;refine aa hn λks0 hk0 hk1=>?_;apply Z;clear Z;refine Zig G hh (Zaa k1 ⟨d,kvs,rfl,hd4,hdL,λvw it od hvw hvL hvd hit hiL hid hiv=>?_⟩);have hpd:p≠d:=λe=>by replace hpp:=hd4▸e▸hpp;cases hpp
 have hpi:p≠it:=Hp.ne_of hpp hit;let Iq:Nat->Loc->Hp->Prop:=λi m₂ hp₂=>m₂ (S "ntest")=some (.int ((bs.length / 100 + 1:Nat):Int))/\m₂ (S "popular")=some (.ref p)/\m₂ (S "b2j")=some (.ref d)/\hp₂ d=some (.obj od)/\(∀ z o,z≠d->z≠p->hp z=some o->hp₂ z=some o)/\∃ ob ks,hp₂ p=some (.obj ob)/\TSet ob (ledW W0) ks/\PopIn bs kvs i ks;refine ⟨Iq,λob=>?_,λi m₂ hp₂ ob x=>?_,λi m₂ hp₂ x=>x.2.2.2.1,λi k v m₂ hp₂ ob hkv hdg x hob=>?_,λm₂ hp₂ x=>?_⟩
 .refine ⟨k2,k3,k1,Hp.snt (Ne.symm hid) (Hp.ss ..),λz o hz _ e=>?_,set0 W0,[],?_,TSet.new W0,.nil,λk=>by simp⟩
  .exact Hp.snt (Hp.ne_of e hit) (Hp.snt hz (Hp.snt (Hp.ne_of e hvw) e))
  .exact Hp.snt hpi (Hp.snt hpd (Hp.snt (Hp.ne_of hpp hvw) hpp))
 .refine hide λ_ Z=>?_;refine aD x λx1 x2 x3 x4 x5 V=>?_;refine ad V λob' ks x6 x7 x8=>?_;clear V;apply Z;clear Z;exact ⟨x1,x2,x3,Hp.snt (Ne.symm hid) x4,λz o hz hz' e=>Hp.snt (Hp.ne_of e hit) (x5 z o hz hz' e),ob',ks,Hp.snt hpi x6,x7,x8⟩
 .refine hide λ_ Z=>?_;refine aD x λx1 x2 x3 x4 x5 V=>?_;refine ad V λob' ks x6 x7 x8=>?_;clear V;refine ae (hlist k v hdg) λa V ha haL=>?_;subst V;have had:a≠d:=λe=>by rw[e,hd4]at ha;cases ha
  have hap:a≠p:=λe=>by rw[e,hpp]at ha;cases ha
  refine au (x8.step hnd hkv) λy1 y2 y3=>?_;apply Z;clear Z;refine Zbh hh rfl rfl rfl (Zak (Zai (Zak (Zai (Zas ?_)))));refine Zcb λKT hT=>?_;have hil:(idxs bs k).length<=bs.length:=by unfold idxs;rw[List.length_map];exact Zfy _ _
  have hil2:(idxs bs k).length=(idxN bs k).length:=by unfold idxs;rw[List.length_map]
  refine Zac (Za5 (Zad (Zau (Zax G (Zct W0) Zb9 (by decide) (λ_=>Zb2) ⟨rfl,Zab (Zaa (v:=.ref a) (by rfl) (Zae (Zec (.own (x5 _ _ had hap ha) haL) (sz' (by lia)) ?_)))⟩))));refine Zaa (v:=.int ((bs.length / 100 + 1:Nat):Int)) (by assumption) (Zf7 (Zaj ?_));by_cases hpop:bs.length / 100 + 1 < (idxN bs k).length
  .refine Zbr (by (exact F30 0x73690378690408760 0x1110 rfl hil2 hpop)) ?_;have P':=y2 hpop;refine Zac (Za0 (Zgd F.slot_set_add F.type_set_add F.plainAttrs_set (Zaa (v:=.ref p) (by assumption) ⟨p,rfl,Zqy x6 hpL x7,Zab (Zaa (v:=.int k) (by rfl) (Zae (Zkh x6 hpL x7 y1 ?_ λo' T'=>?_)))⟩)))
   .have:=Zlq P'.nd (l':=ks0) λz hz=>hk1 z ((P'.mem z).mp hz).2;simp only[List.length_cons]at this;(exact Nat.lt_of_lt_of_le ‹_› ‹_›)
   .refine ⟨by nofun,by nofun,by nofun,Zaf (Zaf ?_)⟩;exact (hT _ _ _ ⟨.inl rfl,⟨by assumption,by assumption,by assumption,Hp.snt (Ne.symm hpd) x4,λz o hz hz' e=>Hp.snt hz' (x5 z o hz hz' e),o',k :: ks,Hp.ss ..,T',P'⟩,Hp.snt (Ne.symm hpi) hob⟩)
  .refine Zbs (by (exact F30 0x7369037286904208760 0x1101 rfl hil2 hpop)) ?_;exact Zaf (Zaf (hT _ _ _ ⟨.inl rfl,⟨by assumption,by assumption,by assumption,x4,x5,ob',ks,x6,x7,y3 hpop⟩,hob⟩))
 .refine hide λ_ Z=>?_;refine aD x λx1 x2 x3 x4 x5 V=>?_;refine ad V λob' ks x6 x7 x8=>?_;clear V;apply Z;clear Z;refine hK _ _ ob' ks x3 x2 (by rw[Hp.del_ne _ hpi,Hp.sn _ _ hpd];exact x6) x7 x8 (by rw[Hp.del_ne _ (Ne.symm hid),Hp.ss]) λz o hz e=>?_;rw[Hp.del_ne _ (Hp.ne_of e hit)];by_cases hzd:z=d
  .subst hzd;rw[Hp.ss,<-e,hd4]
  .exact Hp.snt hzd (x5 z o hzd hz e)
theorem Zme {L x dx d p:Addr}{ma:Loc}{kvs:List (Int × AV)}{bs:List Int}{aj:Bool}{KK:QX} (G:Gnd (KW W0) B) (hh:A.handled=none) (hn:Few bs aj)
  (I:Ins hp L x dx 242 ma) (ha:ma (S "autojunk")=some (.bool aj)) (f1:m (S "self")=some (.ref x)) (f2:m (S "n")=some (.int bs.length)) (f3:m (S "b2j")=some (.ref d)) (f4:m (S "popular")=some (.ref p))
  (hpp:hp p=some (.obj (set0 W0))) (hpL:p≠L) (hd4:hp d=some (.dict kvs)) (hdL:d≠L) (hlen:bs.length<=4000) (hkl:kvs.length<=bs.length) (hnd:(kvs.map (·.1)).Nodup) (hlist:∀ k v,dget kvs k=some v->∃ a,v = .ref a/\hp a=some (.list (idxs bs k))/\a≠L)
  (hK:∀ m' hp' kvs',(∀ z o,z≠d->z≠p->hp z=some o->hp' z=some o)->hp' d=some (.dict kvs')->(∀ k,dget kvs' k=none->Pop bs aj k\/dget kvs k=none)->(∀ k v,dget kvs' k=some v->¬ Pop bs aj k/\dget kvs k=some v)->KK .next m' hp') :
  EX (model PW W0) A (λ_ _=>False) B (callEnv Zco L 188) ((Za7 (mS 5)).getD 8 (.Pass ⟨0,0,0,0⟩)) m hp KK:=by
 have none_:¬ (aj=true/\200<=bs.length)->KK .next m hp:=λhc=>hK _ _ kvs (λ_ _ _ _ e=>e) hd4 (λk e=>.inr e) λk v e=>⟨λh=>hc ⟨h.1,h.2.1⟩,e⟩;refine Za5 ?_;refine Zaz ?_;refine Zah ?_;refine Za2 ?_;refine Zbc G f1 I ha ?_;refine Zaj ?_;cases aj with
 | false=>
  refine if_f (if_f ?_);exact Zaf (none_ (by nofun))
 | true=>
  refine if_t ?_;refine Zah ?_;refine Zad ?_;refine Zaa (by assumption) ?_;refine Zal ?_;refine Ztm ?_;refine Zaj ?_;by_cases hlt:bs.length < 200
  .refine Zbl (show decide ((bs.length:Int)>=200)=false from by simp;(exact Int.ofNat_lt.mpr ‹_›)) (if_f ?_);exact Zaf (none_ (by simp;omega))
  .refine Zbq (show decide ((bs.length:Int)>=200)=true from by simp;(exact F10 0x73c858c857420 0x11 rfl hlt)) ?_;refine Zat ?_;refine if_t ?_;have hpop:∃ ks:List Int,ks.length<=61/\∀ k,bs.length / 100 + 1 < (idxN bs k).length->k ∈ ks:=by
    rcases hn with h | h | h
    .cases h
    .exact absurd h hlt
    .exact h
   refine Zac (Zan (Zag (Zag (Zaa (v:=.int bs.length) (by assumption) (Zal (Zcp (by decide) (by decide) (Zal (Zav ?_))))))));have hnt:((bs.length:Int).fdiv 100 + 1)=((bs.length / 100 + 1:Nat):Int):=by rw[Int.fdiv_eq_ediv_of_nonneg _ (by decide)];push_cast;rfl
   rw[hnt]
   try dsimp only
   generalize hm5:upd m (S "ntest") _=m5;have k1:m5 (S "b2j")=some (.ref d):=by subst hm5;(assumption)
   have k2:m5 (S "ntest")=some (.int ((bs.length / 100 + 1:Nat):Int)):=by subst hm5;(rfl)
   have k3:m5 (S "popular")=some (.ref p):=by subst hm5;(assumption)
   clear hm5;refine Zac (Zn0 G hh hpop k1 k2 k3 hpp hpL hd4 hdL hlen hnd hlist λm' hp' ob ks g1 g2 g3 g4 g5 g6 g7=>?_);have hpd:p≠d:=λe=>by replace hpp:=hd4▸e▸hpp;cases hpp
   have hmem:∀ k,k ∈ ks ↔ k ∈ kvs.map (·.1)/\bs.length / 100 + 1 < (idxN bs k).length:=λk=>by rw[g5.mem,List.take_length]
   refine Zac (Zqr hh g1 g2 g3 hpL g4 g5.nd g6 hdL (by lia) (λk hk=>Zl8 ((hmem k).mp hk).1) λm2 hp2 kvs' q1 q2 q3=>?_);refine Zaf (hK _ _ kvs' (λz o hz hz' e=>q1 z o hz (g7 z o hz' e)) q2 (λk e=>?_) λk v e=>?_)
   .rw [q3]at e;by_cases h:k ∈ ks
    .exact .inl ⟨rfl,by (exact Nat.le_of_not_lt ‹_›),((hmem k).mp h).2⟩
    .rw [if_neg h]at e;exact .inr e
   .rw [q3]at e;by_cases h:k ∈ ks
    .rw [if_pos h]at e;cases e
    .rw [if_neg h]at e;exact ⟨λhP=>h ((hmem k).mpr ⟨Zoz (by rw[e];nofun),hP.2.2⟩),e⟩
theorem Zps {x dx:Addr}{bv:AV}{ma:Loc}{bs:List Int}{aj:Bool}{Q:QV} (G:Gnd (KW W0) B) (hh:A.handled=none) (hroom:A.depth < recursionLimit) (I:Ins hp env.locals x dx 242 ma) (hb:ma (S "b")=some bv) (hl:Src B hp env.locals bv bs)
  (hj:ma (S "isjunk")=some .none) (ha:ma (S "autojunk")=some (.bool aj)) (hn:Few bs aj) (hlen:bs.length<=4000)
  (h:∀ hp' d j p,Ins hp' env.locals x dx 242 (upd (upd (upd ma (S "b2j") (.ref d)) (S "bjunk") (.ref j)) (S "bpopular") (.ref p))->JD hp' env.locals d (PJ bs aj)->hp' j=some (.set (λ_=>false) 0)->j≠env.locals->(∀ z o,z≠dx->z≠env.locals->hp z=some o->hp' z=some o)->hp' env.locals=none->Q .none hp') :
  CL (model PW W0) A E B env (.ref 188) m [.ref x] hp Q:=by
 refine CD.cl (Zdd (bs:=[(S "self",.ref x)]) (body:=Za7 (mS 5)) G (Zs4 W0) (by kernel_rfl) rfl hroom (λs vs hv _=>?_) (by kernel_rfl) (by decide) (λL hL hLe=>?_))
 .refine hide λ_ Z=>?_;obtain ⟨v,rfl,h1⟩:=Zbn hv;apply Z;clear Z;exact ⟨[(S "self",v)],BindsTo.of_eq rfl,rfl,VRs.one h1⟩
 .have hl':Src B (hp.set env.locals (.ns m)) L bv bs:=hl.call hL;have I':Ins (hp.set env.locals (.ns m)) L x dx 242 ma:=I.call hL;have g0:Zaq [(S "self",AV.ref x)] (S "self")=some (.ref x):=rfl;generalize hm0:Zaq [(S "self",AV.ref x)]=m0 at *;have hLc:(hp.set env.locals (.ns m)) L=none:=Hp.snt hLe hL;have hcl:(hp.set env.locals (.ns m)) env.locals=some (.ns m):=Hp.ss ..;have hback:∀ z o,z≠env.locals->hp z=some o->(hp.set env.locals (.ns m)) z=some o:=λz o hz e=>Hp.snt hz e;generalize hp.set env.locals (.ns m)=hpc at *;have hdl:∀ ys,hpc dx≠some (.list ys):=λys e=>by rw[I'.at_]at e;cases e
  have hdE:dx≠env.locals:=I.dL;refine Zac (Zan (Zbc G g0 I' hb ?_ (hu:=hl.nbi)));refine Zac (Zba (Zgc λd hd hdL=>Za6 G (by assumption) (I'.le ((Hp.Le.refl _).set hd _)) (Zai ?_)));have hddx:d≠dx:=Ne.symm (Hp.ne_of I'.at_ hd);have e1:(hpc.set d (.dict [])).set dx (.atr (upd ma (S "b2j") (.ref d)))=(hpc.set dx (.atr (upd ma (S "b2j") (.ref d)))).set d (.dict []):=Hp.sc _ _ _ hddx;rw[e1];have I1:Ins (hpc.set dx (.atr (upd ma (S "b2j") (.ref d)))) L x dx 242 (upd ma (S "b2j") (.ref d)):=I'.put;have hl1:Src B (hpc.set dx (.atr (upd ma (S "b2j") (.ref d)))) L bv bs:=hl'.put hdl;have hbd:(hpc.set dx (.atr (upd ma (S "b2j") (.ref d)))) d=none:=Hp.snt hddx hd;have hle0:Hp.Le (hpc.del dx) (hpc.set dx (.atr (upd ma (S "b2j") (.ref d)))):=λz o e=>by
   have hz:z≠dx:=λh=>by subst h;simp[Hp.del]at e
   rw[Hp.del_ne _ hz]at e;rw[Hp.sn _ _ hz];exact e
  have hbn:∀ z,(hpc.set dx (.atr (upd ma (S "b2j") (.ref d)))) z=none->z≠dx/\z≠env.locals:=λz hz=>⟨λe=>(by rw[e,Hp.ss]at hz;cases hz),λe=>(by rw[e,Hp.sn _ _ (Ne.symm hdE),hcl]at hz;cases hz)⟩;generalize hpc.set dx (.atr (upd ma (S "b2j") (.ref d)))=hb1 at *;refine Zmz (Ic x d bv hb1 L bs) (Zju G hh hl1 hbd hdL hlen (by assumption) (by rfl) (by rfl) λ_ _ x=>⟨rfl,x⟩) ?_;rintro m1 hp1 ⟨f1,f2,f3,⟨kvs,R⟩,f4⟩;have I2:=I1.le f3;refine Zac (Zba (Zrr (Zax G (Zpy W0) Zmi (by decide) (λ_=>Zeg) ⟨rfl,λj hj' hjL=>Za6 G f1 (I2.le ((Hp.Le.refl _).set hj' _)) (Zai ?_)⟩)));generalize hA2:(hp1.set j (.set (λ_=>false) 0)).set dx (.atr (upd (upd ma (S "b2j") (.ref d)) (S "bjunk") (.ref j)))=hpA;refine hide λ_ Z=>?_;obtain ⟨I3,hjA,_,kA⟩:=Zip I2 hj' hA2;apply Z;clear Z;clear hA2;refine Zac (Zan (Zbc G (by assumption) I3 (by assumption) ?_));refine Zac ?_;refine Za5 ?_;refine Za2 ?_;refine Zaa (by rfl) ?_;refine Zo9 ?_;refine if_f ?_;refine Zaf ?_;refine Zac (Zba (Zrq (Zax G (Zpy W0) Zmi (by decide) (λ_=>Zeg) ⟨rfl,λp hp' hpL=>Za6 G (by assumption) (I3.le ((Hp.Le.refl _).set hp' _)) (Zai ?_)⟩)));generalize hB2:(hpA.set p (.obj (set0 W0))).set dx (.atr (upd (upd (upd ma (S "b2j") (.ref d)) (S "bjunk") (.ref j)) (S "bpopular") (.ref p)))=hp4;refine hide λ_ Z=>?_;refine ak (Zip I3 hp' hB2) λI4 hp4p hpdx kB=>?_;apply Z;clear Z;clear hB2;have hjdx:j≠dx:=Ne.symm (Hp.ne_of I2.at_ hj');have hkeep:∀ z o,z≠dx->hp1 z=some o->hp4 z=some o:=λz o hz e=>kB _ _ hz (kA _ _ hz e);have hp1p:∀ z o,z≠dx->hp1 z=some o->z≠p:=λz o hz e=>Hp.ne_of (kA _ _ hz e) hp';have hjp:j≠p:=Hp.ne_of hjA hp';have hxp:x≠p:=Hp.ne_of I3.ob hp';have hj4:hp4 j=some (.set (λ_=>false) 0):=kB _ _ hjdx hjA;clear kA kB hjA hp';have hl4:Src B hp4 L bv bs:=(hl1.le f3).keep λz ys e=>hkeep _ _ (λh=>by rw[h,I2.at_]at e;cases e) e;refine Zac (Zan (Zau (Zax G (Zct W0) Zb9 (by decide) (λ_=>Zb2) ⟨rfl,Zab (Zaa (v:=bv) (by assumption) (Zae (Znb hl4 hlen ?_)))⟩)));have fin:∀ m5 hp5 kvs',(∀ z o,z≠d->z≠p->hp4 z=some o->hp5 z=some o)->hp5 d=some (.dict kvs')->(∀ k,dget kvs' k=none->Pop bs aj k\/dget kvs k=none)->(∀ k v,dget kvs' k=some v->¬ Pop bs aj k/\dget kvs k=some v)->EXs (model PW W0) (A.deeper (callEnv Zco L 188)) (λ_ _=>False) B (callEnv Zco L 188) [] m5 hp5 (RET L env m Q):=λm5 hp5 kvs' l5 hd5 kn ks=>by
   have hkeep5:∀ z o,z≠dx->z≠d->hp1 z=some o->hp5 z=some o:=λz o hz hzd e=>l5 _ _ hzd (hp1p z o hz e) (hkeep z o hz e);have hb1d:∀ z o,hb1 z=some o->z≠d:=λz o e=>Hp.ne_of e hbd;have eE:hb1 env.locals=some (.ns m):=hle0 _ _ (by rw[Hp.del_ne _ (Ne.symm hdE)];exact hcl);have hxd:x≠d:=hb1d _ _ I1.ob;refine Zaf (Zcs (hkeep5 _ _ (Ne.symm hdE) (hb1d _ _ eE) (f3 _ _ eE)) ?_);have hjE:j≠env.locals:=λe=>by rw[<-e]at eE;replace hj':=(f3 _ _ eE)▸hj';cases hj'
   have hdE2:d≠env.locals:=(hbn d hbd).2;have hjd:j≠d:=λe=>by replace hj':=R.di▸e▸hj';cases hj'
   refine h _ d j p ⟨?_,?_,I.xL,I.dL⟩ ⟨kvs',?_,hdE2,λk hk=>?_,λk v hk=>?_⟩ ?_ hjE (λz o hz hzE e=>?_) (by simp[Hp.cut])
   .rw [Hp.cut_eq I.xL I4.xL];exact l5 _ _ hxd hxp I4.ob
   .rw [Hp.cut_eq I.dL I4.dL];exact l5 _ _ (Ne.symm hddx) (Ne.symm hpdx) I4.at_
   .rw [Hp.cut_eq hdE2 R.dL];exact hd5
   .unfold PJ;rcases kn k hk with hP | hno
    .exact (if_pos hP)
    .split
     .rfl
     .exact R.no k hno
   .obtain ⟨hP,hkk⟩:=ks k v hk;refine ap (R.yes k v hkk) λa V ha haL hba=>?_;subst V;have haE:a≠env.locals:=(hbn a hba).2;have had:a≠d:=λe=>by rw[e,R.di]at ha;cases ha
    have hadx:a≠dx:=(hbn a hba).1;refine ⟨a,rfl,?_,haE,by rw[show PJ bs aj k=idxN bs k from by unfold PJ;exact (if_neg hP)];exact R.ne k _ hkk⟩;rw[Hp.cut_eq haE haL,show PJ bs aj k=idxN bs k from by unfold PJ;exact (if_neg hP)];exact hkeep5 _ _ hadx had ha
   .have hjL2:j≠L:=hjL;rw[Hp.cut_eq hjE hjL2];exact l5 _ _ hjd hjp hj4
   .have hc:hpc z=some o:=hback z o hzE e;have hz1:hb1 z=some o:=hle0 _ _ (by rw[Hp.del_ne _ hz];exact hc);rw[Hp.cut_eq hzE (Hp.ne_of hc hLc)];exact hkeep5 _ _ hz (hb1d _ _ hz1) (f3 _ _ hz1)
  refine Zac (Zme (kvs:=kvs) (bs:=bs) (aj:=aj) G hh hn I4 (by assumption) (by assumption) (by rfl) (by assumption) (by rfl) hp4p hpL (hkeep _ _ hddx R.di) R.dL hlen R.len R.nd (λk v hk=>?_) fin);refine hide λ_ Z=>?_;obtain ⟨a,e,ha,haL,_⟩:=R.yes k v hk;apply Z;clear Z;exact ⟨a,e,hkeep _ _ (λe'=>by rw[e',I2.at_]at ha;cases ha) ha,haL⟩
end
noncomputable def Ze2:List String:=["isjunk", "a", "b", "autojunk", "matching_blocks", "opcodes", "fullbcount", "b2j", "bjunk", "bpopular"]
structure SMg (ma:Loc) (a b:AV) (d j:Addr) (aj:Bool) (mb op:AV):Prop where
 a:ma (S "a")=some a
 b:ma (S "b")=some b
 b2j:ma (S "b2j")=some (.ref d)
 bj:ma (S "bjunk")=some (.ref j)
 mb:ma (S "matching_blocks")=some mb
 op:ma (S "opcodes")=some op
 ij:ma (S "isjunk")=some .none
 aj:ma (S "autojunk")=some (.bool aj)
 no:∀ y,y ∉ Ze2->ma (S y)=none
structure MT (hp:Hp) (L x dx:Addr) (a b:AV) (bs:List Int) (aj:Bool) (mb op:AV):Prop where
 ex:∃ ma d j,Ins hp L x dx 242 ma/\SMg ma a b d j aj mb op/\JD hp L d (PJ bs aj)/\hp j=some (.set (λ_=>false) 0)/\j≠L
theorem MT.xL {hp:Hp}{L x dx:Addr}{a b:AV}{bs:List Int}{aj:Bool}{mb op:AV} (M:MT hp L x dx a b bs aj mb op):x≠L/\dx≠L/\x≠dx:=by refine hide λ_ Z=>?_;obtain ⟨ma,d,j,I,_⟩:=M.ex;apply Z;clear Z;exact ⟨I.xL,I.dL,I.xd⟩
theorem MT.move {hp hp':Hp}{L L' x dx:Addr}{a b:AV}{bs:List Int}{aj:Bool}{mb op:AV} (M:MT hp L x dx a b bs aj mb op) (h:∀ z o,hp z=some o->(∀ m,o≠.ns m)->z≠L->hp' z=some o/\z≠L'):MT hp' L' x dx a b bs aj mb op:=by refine hide λ_ Z=>?_;refine aC M.ex λma d j I F R hj hjL=>?_;apply Z;clear Z;have x1:=h _ _ I.ob (by nofun) I.xL;have x2:=h _ _ I.at_ (by nofun) I.dL;have x3:=h _ _ hj (by nofun) hjL;exact ⟨ma,d,j,⟨x1.1,x2.1,x1.2,x2.2⟩,F,R.move h,x3.1,x3.2⟩
noncomputable def Own:AO->Prop
 | .dict _=>True
 | .set _ _=>True
 | .list (.int _ :: _)=>True
 | _=>False
theorem JD.moveO {hp hp':Hp}{L L' d:Addr}{J:Int->List Nat} (R:JD hp L d J) (h:∀ z o,hp z=some o->Own o->z≠L->hp' z=some o/\z≠L'):JD hp' L' d J:=by
 refine ap R.ex λkvs h1 h2 h3 h4=>?_;have x:=h _ _ h1 trivial h2;refine ⟨kvs,x.1,x.2,h3,λk v hk=>?_⟩;refine ae (h4 k v hk) λa e ha haL=>?_;cases ej:J k with
 | nil=>exact absurd ej haL.2
 | cons i r=>
  rw[ej]at ha;have y:=h _ _ ha trivial haL.1;exact ⟨a,e,y.1,y.2,by nofun⟩
theorem MT.moveO {hp hp':Hp}{L L' x dx:Addr}{a b:AV}{bs:List Int}{aj:Bool}{mb op:AV} (M:MT hp L x dx a b bs aj mb op) (hx:hp' x=hp x) (hd:hp' dx=hp dx) (hxL:x≠L') (hdL:dx≠L') (h:∀ z o,hp z=some o->Own o->z≠L->hp' z=some o/\z≠L'):MT hp' L' x dx a b bs aj mb op:=by refine aC M.ex λma d j I F R hj hjL=>?_;have x3:=h _ _ hj trivial hjL;exact ⟨ma,d,j,⟨hx.trans I.ob,hd.trans I.at_,hxL,hdL⟩,F,R.moveO h,x3.1,x3.2⟩
theorem MT.le {hp hp':Hp}{L x dx:Addr}{a b:AV}{bs:List Int}{aj:Bool}{mb op:AV} (M:MT hp L x dx a b bs aj mb op) (le:Hp.Le hp hp'):MT hp' L x dx a b bs aj mb op:=M.move λ_ _ e _ e3=>⟨le _ _ e,e3⟩
theorem MT.call {hp:Hp}{L L' x dx:Addr}{a b:AV}{bs:List Int}{aj:Bool}{mb op:AV}{m:Loc} (M:MT hp L x dx a b bs aj mb op) (h:hp L'=none):MT (hp.set L (.ns m)) L' x dx a b bs aj mb op:=M.move λ_ _ e _ e3=>⟨Hp.snt e3 e,Hp.ne_of e h⟩
theorem MT.keep {hp:Hp}{L x dx:Addr}{a b:AV}{bs:List Int}{aj:Bool}{mb op:AV} (M:MT hp L x dx a b bs aj mb op):∃ ma,Ins hp L x dx 242 ma/\ma (S "matching_blocks")=some mb/\ma (S "opcodes")=some op/\(∀ y,y ∉ Ze2->ma (S y)=none)/\ma (S "a")=some a/\ma (S "b")=some b /\
  (∀ mb',MT (hp.set dx (.atr (upd ma (S "matching_blocks") mb'))) L x dx a b bs aj mb' op)/\∀ op',MT (hp.set dx (.atr (upd ma (S "opcodes") op'))) L x dx a b bs aj mb op':=by
 refine hide λ_ Z=>?_;refine aC M.ex λma d j I F R hj hjL=>?_;apply Z;clear Z;have hj':∀ o,(hp.set dx o) j=some (.set (λ_=>false) 0):=λo=>Hp.snt (λe=>by rw[e,I.at_]at hj;cases hj) hj;refine ⟨ma,I,F.mb,F.op,F.no,F.a,F.b,λmb'=>⟨_,d,j,I.put,⟨?_,?_,?_,?_,?_,?_,?_,?_,λy hy=>?_⟩,R.put I.at_,hj' _,hjL⟩,λop'=>⟨_,d,j,I.put,⟨?_,?_,?_,?_,?_,?_,?_,?_,λy hy=>?_⟩,R.put I.at_,hj' _,hjL⟩⟩
 .exact F.a
 .exact F.b
 .exact F.b2j
 .exact F.bj
 .rfl
 .exact F.op
 .exact F.ij
 .exact F.aj
 .rw [ug,if_neg (λe=>hy (by rw[e];decide))];exact F.no y hy
 .exact F.a
 .exact F.b
 .exact F.b2j
 .exact F.bj
 .exact F.mb
 .rfl
 .exact F.ij
 .exact F.aj
 .rw [ug,if_neg (λe=>hy (by rw[e];decide))];exact F.no y hy
noncomputable def NotIs (B:Shared) (hp:Hp) (L:Addr) (nv av:AV):Prop:=(av = .none/\nv.isNone=false)\/∃ a,nv = .ref a/\Other B hp L a av
theorem Other.call {B:Shared}{hp:Hp}{L L' a:Addr}{v:AV}{m:Loc} (x:Other B hp L a v) (h:hp L'=none):Other B (hp.set L (.ns m)) L' a v:=by
 rcases x with e | e | ⟨b,xs,ys,e,h1,h2,h3⟩
 .exact .inl e
 .exact .inr (.inl e)
 .exact .inr (.inr ⟨b,xs,ys,e,h1.call h,h2.call h,h3⟩)
theorem Other.put {B:Shared}{hp:Hp}{L a c:Addr}{o:AO}{v:AV} (x:Other B hp L a v) (h:∀ ys,hp c≠some (.list ys)):Other B (hp.set c o) L a v:=by
 rcases x with e | e | ⟨b,xs,ys,e,h1,h2,h3⟩
 .exact .inl e
 .exact .inr (.inl e)
 .exact .inr (.inr ⟨b,xs,ys,e,h1.put h,h2.put h,h3⟩)
theorem NotIs.call {B:Shared}{hp:Hp}{L L':Addr}{nv v:AV}{m:Loc} (x:NotIs B hp L nv v) (h:hp L'=none):NotIs B (hp.set L (.ns m)) L' nv v:=by
 rcases x with e | ⟨a,e,y⟩
 .exact .inl e
 .exact .inr ⟨a,e,y.call h⟩
theorem NotIs.put {B:Shared}{hp:Hp}{L c:Addr}{o:AO}{nv v:AV} (x:NotIs B hp L nv v) (h:∀ ys,hp c≠some (.list ys)):NotIs B (hp.set c o) L nv v:=by
 rcases x with e | ⟨a,e,y⟩
 .exact .inl e
 .exact .inr ⟨a,e,y.put h⟩
theorem NotIs.nbi {B:Shared}{hp:Hp}{L:Addr}{nv v:AV} (x:NotIs B hp L nv v):∀ n,v≠.bi n:=by rcases x with ⟨e,_⟩ | ⟨a,_,e | ⟨_,e⟩ | ⟨b,_,_,e,_⟩⟩ <;> (subst e;intro _ h;cases h)
section
theorem Zjb {nv av:AV}{Q:QV} (x:NotIs B hp env.locals nv av) (h:Q (.bool false) hp):OP2 (model PW W0) A E B env (compareOp .Is) m nv av hp Q:=by
 rcases x with ⟨rfl,e⟩ | ⟨a,rfl,y⟩
 .exact Zdp (by rw[e];exact h)
 .exact Zjx y h
theorem Zm8 {x dx:Addr}{nv av:AV}{ma:Loc}{Q:QV} (G:Gnd (KW W0) B) (hroom:A.depth < recursionLimit) (I:Ins hp env.locals x dx 242 ma) (ha:ma (S "a")=some av) (hn:NotIs B hp env.locals nv av)
  (h:Q .none (hp.set dx (.atr (upd (upd (upd ma (S "a") nv) (S "matching_blocks") .none) (S "opcodes") .none)))):CL (model PW W0) A E B env (.ref 174) m [.ref x,nv] hp Q:=by
 refine CD.cl (Zdd (bs:=[(S "a",nv),(S "self",.ref x)]) (body:=Za7 (mS 3)) G (Zs2 W0) (by kernel_rfl) rfl hroom (λs vs hv _=>?_) (by kernel_rfl) (by decide) (λL hL hLe=>?_))
 .refine ad (Zbg hv) λv u V h1 h2=>?_;subst V;exact ⟨[(S "self",v),(S "a",u)],BindsTo.of_eq rfl,rfl,.mk h2 (.mk h1 .nil)⟩
 .have I':Ins (hp.set env.locals (.ns m)) L x dx 242 ma:=I.call hL;have g0:Zaq [(S "a",nv),(S "self",AV.ref x)] (S "self")=some (.ref x):=rfl;have g1:Zaq [(S "a",nv),(S "self",AV.ref x)] (S "a")=some nv:=rfl;generalize hm0:Zaq [(S "a",nv),(S "self",AV.ref x)]=m0 at *;refine Zac (Zcj ?_);have hn':NotIs B (hp.set env.locals (.ns m)) L nv av:=hn.call hL;refine Zac (Za5 (Zad (Zaa g1 (Zbc G g0 I' ha (Zjb hn' (Zaj ?_)) (hu:=hn.nbi)))));refine if_f ?_;refine Zaf (Zac ?_);refine Zb4 (Zaa g1 (Za6 G g0 I' ?_));have I1:=I'.put (ma':=upd ma (S "a") nv);refine Zac (Zba (Zcc (Za6 G g0 I1 ?_)));rw[Hp.set_set];have I2:=I'.put (ma':=upd (upd ma (S "a") nv) (S "matching_blocks") .none);refine Za6 G g0 I2 ?_;rw[Hp.set_set];refine Zaf ?_;exact Zqp hL I.dL I'.dL h
theorem Zm7 {x dx:Addr}{nv av:AV}{ma:Loc}{bs:List Int}{aj:Bool}{Q:QV} (G:Gnd (KW W0) B) (hh:A.handled=none) (hroom:A.depth + 1 < recursionLimit) (I:Ins hp env.locals x dx 242 ma) (hb:ma (S "b")=some av) (hni:NotIs B hp env.locals nv av) (hl:Src B hp env.locals nv bs)
  (hj:ma (S "isjunk")=some .none) (ha:ma (S "autojunk")=some (.bool aj)) (hc:ma (S "_SequenceMatcher__chain_b")=none) (hn:Few bs aj) (hlen:bs.length<=4000)
  (h:∀ hp' d j p,Ins hp' env.locals x dx 242 (upd (upd (upd (upd (upd (upd (upd ma (S "b") nv) (S "matching_blocks") .none) (S "opcodes") .none) (S "fullbcount") .none) (S "b2j") (.ref d)) (S "bjunk") (.ref j)) (S "bpopular") (.ref p))->JD hp' env.locals d (PJ bs aj)->hp' j=some (.set (λ_=>false) 0)->j≠env.locals->(∀ z o,z≠dx->z≠env.locals->hp z=some o->hp' z=some o)->hp' env.locals=none->Q .none hp') :
  CL (model PW W0) A E B env (.ref 181) m [.ref x,nv] hp Q:=by
 refine CD.cl (Zdd (bs:=[(S "b",nv),(S "self",.ref x)]) (body:=Za7 (mS 4)) G (Zs1 W0) (by kernel_rfl) rfl (by (exact Nat.lt_of_succ_lt ‹_›)) (λs vs hv _=>?_) (by kernel_rfl) (by decide) (λL hL hLe=>?_))
 .refine ad (Zbg hv) λv u V h1 h2=>?_;subst V;exact ⟨[(S "self",v),(S "b",u)],BindsTo.of_eq rfl,rfl,.mk h2 (.mk h1 .nil)⟩
 .have I':Ins (hp.set env.locals (.ns m)) L x dx 242 ma:=I.call hL;have hl':Src B (hp.set env.locals (.ns m)) L nv bs:=hl.call hL;have hdl:∀ ys,(hp.set env.locals (.ns m)) dx≠some (.list ys):=λys e=>by rw[I'.at_]at e;cases e
  have g0:Zaq [(S "b",nv),(S "self",AV.ref x)] (S "self")=some (.ref x):=rfl;have g1:Zaq [(S "b",nv),(S "self",AV.ref x)] (S "b")=some nv:=rfl;generalize hm0:Zaq [(S "b",nv),(S "self",AV.ref x)]=m0 at *;refine Zac (Zcj ?_);have hn':NotIs B (hp.set env.locals (.ns m)) L nv av:=hni.call hL;refine Zac (Za5 (Zad (Zaa g1 (Zbc G g0 I' hb (Zjb hn' (Zaj ?_)) (hu:=hni.nbi)))));refine if_f ?_;refine Zaf (Zac ?_);refine Zb4 (Zaa g1 (Za6 G g0 I' ?_));have I1:=I'.put (ma':=upd ma (S "b") nv);refine Zac (Zba (Zcc (Za6 G g0 I1 ?_)));rw[Hp.set_set];have I2:=I'.put (ma':=upd (upd ma (S "b") nv) (S "matching_blocks") .none);refine Za6 G g0 I2 ?_;rw[Hp.set_set];have I3:=I'.put (ma':=upd (upd (upd ma (S "b") nv) (S "matching_blocks") .none) (S "opcodes") .none);refine Zac (Zb4 (Zcc (Za6 G g0 I3 ?_)));rw[Hp.set_set];have I4:=I'.put (ma':=upd (upd (upd (upd ma (S "b") nv) (S "matching_blocks") .none) (S "opcodes") .none) (S "fullbcount") .none);refine Zac (Za0 (Zdt G (clsS W0) (f:=188) (by kernel_rfl) (by kernel_rfl) (by kernel_rfl) (Zaa g0 ⟨x,dx,_,rfl,I4,?_,?_⟩)))
  ·(assumption)
  refine Zps (A:=A.deeper (callEnv Zp5 L 181)) G hh (by show A.depth + 1 < _;omega) I4 (by rfl) (hl'.put hdl) (by assumption) (by assumption) hn hlen λhp' d j p i1 i2 i3 i4 i5 i6=>?_;refine ⟨by nofun,by nofun,by nofun,?_⟩;change j≠L at i4;have keepz:∀ z o,z≠dx->z≠L->(hp.set env.locals (.ns m)) z=some o->hp' z=some o:=λz o hz hzL e=>i5 z o hz hzL (Hp.snt hz e);have hle:hp' env.locals=some (.ns m):=keepz _ _ (Ne.symm I.dL) (Ne.symm hLe) (Hp.ss ..);have hjE:j≠env.locals:=λe=>by rw[e,hle]at i3;cases i3
  refine Zaf (Zcs hle (h _ d j p ⟨?_,?_,I.xL,I.dL⟩ (i2.move (λz o e hns hz=>?_)) ?_ hjE (λz o hz hzE e=>?_) (by simp[Hp.cut])))
  .rw [Hp.cut_eq I.xL (show x≠L from i1.xL)];exact i1.ob
  .rw [Hp.cut_eq I.dL (show dx≠L from i1.dL)];exact i1.at_
  .have hzE:z≠env.locals:=λh=>by rw[h,hle]at e;cases e;exact hns _ rfl
   exact ⟨by rw[Hp.cut_eq hzE (show z≠L from hz)];exact e,hzE⟩
  .rw [Hp.cut_eq hjE i4];exact i3
  .have hzL:z≠L:=Hp.ne_of e hL;rw[Hp.cut_eq hzE hzL];exact keepz z o hz hzL (Hp.snt hzE e)
theorem Zm6 {x dx:Addr} {av bv a0 b0:AV}{ma:Loc}{bs:List Int}{aj:Bool}{Q:QV} (G:Gnd (KW W0) B) (hh:A.handled=none) (hroom:A.depth + 2 < recursionLimit) (I:Ins hp env.locals x dx 242 ma) (ha:ma (S "a")=some a0) (hb:ma (S "b")=some b0) (na:NotIs B hp env.locals av a0) (nb:NotIs B hp env.locals bv b0) (hl:Src B hp env.locals bv bs)
  (hj:ma (S "isjunk")=some .none) (hau:ma (S "autojunk")=some (.bool aj)) (hno:∀ y,y ∉ Ze2->ma (S y)=none) (hn:Few bs aj) (hlen:bs.length<=4000)
  (h:∀ hp',MT hp' env.locals x dx av bv bs aj .none .none->(∀ z o,z≠dx->z≠env.locals->hp z=some o->hp' z=some o)->hp' env.locals=none->Q .none hp') :
  CL (model PW W0) A E B env (.ref 167) m [.ref x,av,bv] hp Q:=by
 refine CD.cl (Zdd (bs:=[(S "b",bv),(S "a",av),(S "self",.ref x)]) (body:=Za7 (mS 2)) G (Zs0 W0) (by kernel_rfl) rfl (by (exact ul0 ‹_›)) (λs vs hv _=>?_) (by kernel_rfl) (by decide) (λL hL hLe=>?_))
 .refine hide λ_ Z=>?_;refine aw (Zhe hv) λv u z V h1 h2 h3=>?_;subst V;apply Z;clear Z;exact ⟨[(S "self",v),(S "a",u),(S "b",z)],BindsTo.of_eq rfl,rfl,.mk h3 (.mk h2 (.mk h1 .nil))⟩
 .have I':Ins (hp.set env.locals (.ns m)) L x dx 242 ma:=I.call hL;have hl':Src B (hp.set env.locals (.ns m)) L bv bs:=hl.call hL;have hdl:∀ ys,(hp.set env.locals (.ns m)) dx≠some (.list ys):=λys e=>by rw[I'.at_]at e;cases e
  have g0:Zaq [(S "b",bv),(S "a",av),(S "self",AV.ref x)] (S "self")=some (.ref x):=rfl;have g1:Zaq [(S "b",bv),(S "a",av),(S "self",AV.ref x)] (S "b")=some bv:=rfl;have g2:Zaq [(S "b",bv),(S "a",av),(S "self",AV.ref x)] (S "a")=some av:=rfl;generalize hm0:Zaq [(S "b",bv),(S "a",av),(S "self",AV.ref x)]=m0 at *;have hc1:ma (S "set_seq1")=none:=hno _ (by decide);have hc2:ma (S "set_seq2")=none:=hno _ (by decide);have hc3:ma (S "_SequenceMatcher__chain_b")=none:=hno _ (by decide);refine Zac (Zcj ?_);refine Zac (Za0 (Zck G (clsS W0) (f:=174) (by kernel_rfl) (by kernel_rfl) (by kernel_rfl) (Zaa g0 ⟨x,dx,_,rfl,I',hc1,Zab (Zaa g2 (Zae ?_))⟩)));refine Zm8 (A:=A.deeper (callEnv Zg6 L 167)) G (by show A.depth + 1 < _;(exact Nat.lt_of_succ_lt ‹_›)) I' ha (na.call hL) ?_;refine ⟨by nofun,by nofun,by nofun,?_⟩;have I1:=I'.put (ma':=upd (upd (upd ma (S "a") av) (S "matching_blocks") .none) (S "opcodes") .none);refine Zac (Za0 (Zck G (clsS W0) (f:=181) (by kernel_rfl) (by kernel_rfl) (by kernel_rfl) (Zaa g0 ⟨x,dx,_,rfl,I1,?_,Zab (Zaa g1 (Zae ?_))⟩)))
  ·(assumption)
  refine Zm7 (A:=A.deeper (callEnv Zg6 L 167)) G hh (by show A.depth + 1 + 1 < _;omega) I1 (by assumption) ((nb.call hL).put hdl) (hl'.put hdl) (by assumption) (by assumption) (by assumption) hn hlen λhp' d j p i1 i2 i3 i4 i5 i6=>?_;refine ⟨by nofun,by nofun,by nofun,?_⟩;change j≠L at i4;have keepz:∀ z o,z≠dx->z≠L->(hp.set env.locals (.ns m)) z=some o->hp' z=some o:=λz o hz hzL e=>i5 z o hz hzL (Hp.snt hz e);have hle:hp' env.locals=some (.ns m):=keepz _ _ (Ne.symm I.dL) (Ne.symm hLe) (Hp.ss ..);have hjE:j≠env.locals:=λe=>by rw[e,hle]at i3;cases i3
  have i1':=Ins.mk (hp:=hp'.cut env.locals L) (L:=env.locals) (by rw[Hp.cut_eq I.xL (show x≠L from i1.xL)];exact i1.ob) (by rw[Hp.cut_eq I.dL (show dx≠L from i1.dL)];exact i1.at_) I.xL I.dL;refine Zaf (Zcs hle (h _ ⟨_,d,j,i1',⟨by rfl,by rfl,by rfl,by rfl,by rfl,by rfl,by assumption,by assumption,λy hy=>?_⟩,i2.move (λz o e hns hz=>⟨by rw[Hp.cut_eq (λh=>by rw[h,hle]at e;cases e;exact hns _ rfl) (show z≠L from hz)];exact e,λh=>by rw[h,hle]at e;cases e;exact hns _ rfl⟩),?_,hjE⟩ (λz o hz hzE e=>?_) (by simp[Hp.cut])))
  .refine hide λ_ Z=>?_;have hy':=hy;simp only[Ze2,List.mem_cons,List.not_mem_nil,or_false,not_or]at hy';refine aY hy' λh1 h2 h3 h4 h5 h6 h7 h8 h9 h10=>?_;apply Z;clear Z;simp only[ug,h1,h2,h3,h4,h5,h6,h7,h8,h9,h10,if_false];exact hno y hy
  .rw [Hp.cut_eq hjE i4];exact i3
  .have hzL:z≠L:=Hp.ne_of e hL;rw[Hp.cut_eq hzE hzL];exact keepz z o hz hzL (Hp.snt hzE e)
theorem Zty {av bv:AV}{avs:List AV}{bs:List Int}{aj:Bool}{Q:QV} (G:Gnd (KW W0) B) (hh:A.handled=none) (hroom:A.depth + 5 < recursionLimit) (hav:av.isNone=false) (hl:Src B hp env.locals bv bs) (hn:Few bs aj) (hlen:bs.length<=4000)
  (h:∀ hp' x dx,hp x=none->hp dx=none->MT hp' env.locals x dx av bv bs aj .none .none->(∀ z o,z≠env.locals->hp z=some o->hp' z=some o)->hp' env.locals=none->Q (.ref x) hp')
  (hb:∀ (x:Addr) (s:Shared) vs,VRs s.heap (.ref x :: avs) vs->(KW W0).In s.heap->∃ us,BindsTo s Zl0 ⟨vs,[]⟩ us/\us.reverse.map (·.1)=[S "autojunk",S "b",S "a",S "isjunk",S "self"]/\VRs s.heap [.bool aj,bv,av,.none,.ref x] (us.reverse.map (·.2))) :
  CL (model PW W0) A E B env (.ref 242) m avs hp Q:=by
 refine Zru G (Zsn W0) (fI:=160) (by kernel_rfl) (by kernel_rfl) λx dx vs' hx hdx hxd hxL hdL=>?_;refine Zdd (bs:=[(S "autojunk",.bool aj),(S "b",bv),(S "a",av),(S "isjunk",.none),(S "self",.ref x)]) (body:=Za7 (mS 1)) G (Zui W0) (by kernel_rfl) rfl (by show A.depth + 1 < _;(exact ul ‹_› (by decide))) (λs vs hv hk=>?_) (by kernel_rfl) (by decide) (λL hL hLe=>?_)
 .exact hb x s vs hv (G.X.keeps hk)
 .have hle:Hp.Le hp ((hp.set dx (.atr λ_=>none)).set x (.obj (instObj 242 dx))):=((Hp.Le.refl hp).set hdx _).set hx _;have I:Ins ((hp.set dx (.atr λ_=>none)).set x (.obj (instObj 242 dx))) env.locals x dx 242 (λ_=>none):=⟨Hp.ss ..,Hp.snt (Ne.symm hxd) (Hp.ss ..),hxL,hdL⟩;have hl1:=hl.le hle;have hx0:hp x=none:=hx;have hbv:bv.isNone=false:=by cases hl <;> rfl
  have hpne:∀ z o,hp z=some o->z≠dx:=λz o e h=>by rw[h,hdx]at e;cases e
  generalize hq:(hp.set dx (.atr λ_=>none)).set x (.obj (instObj 242 dx))=hp1 at *;have I':Ins (hp1.set env.locals (.ns m)) L x dx 242 (λ_=>none):=I.call hL;have hl':Src B (hp1.set env.locals (.ns m)) L bv bs:=hl1.call hL;have hdl:∀ ys,(hp1.set env.locals (.ns m)) dx≠some (.list ys):=λys e=>by rw[I'.at_]at e;cases e
  have g0:Zaq [(S "autojunk",AV.bool aj),(S "b",bv),(S "a",av),(S "isjunk",AV.none),(S "self",AV.ref x)] (S "self")=some (.ref x):=rfl;have g1:Zaq [(S "autojunk",AV.bool aj),(S "b",bv),(S "a",av),(S "isjunk",AV.none),(S "self",AV.ref x)] (S "b")=some bv:=rfl;have g2:Zaq [(S "autojunk",AV.bool aj),(S "b",bv),(S "a",av),(S "isjunk",AV.none),(S "self",AV.ref x)] (S "a")=some av:=rfl;have g3:Zaq [(S "autojunk",AV.bool aj),(S "b",bv),(S "a",av),(S "isjunk",AV.none),(S "self",AV.ref x)] (S "isjunk")=some .none:=rfl;have g4:Zaq [(S "autojunk",AV.bool aj),(S "b",bv),(S "a",av),(S "isjunk",AV.none),(S "self",AV.ref x)] (S "autojunk")=some (.bool aj):=rfl;generalize hm0:Zaq [(S "autojunk",AV.bool aj),(S "b",bv),(S "a",av),(S "isjunk",AV.none),(S "self",AV.ref x)]=m0 at *;refine Zac (Zcj ?_);refine Zac (Zb4 (Zaa g3 (Za6 G g0 I' ?_)));have I1:=I'.put (ma':=upd (λ_=>none) (S "isjunk") .none);refine Zac (Zba (Zcc (Za6 G g0 I1 ?_)));rw[Hp.set_set];have I2:=I'.put (ma':=upd (upd (λ_=>none) (S "isjunk") .none) (S "a") .none);refine Za6 G g0 I2 ?_;rw[Hp.set_set];have I3:=I'.put (ma':=upd (upd (upd (λ_=>none) (S "isjunk") .none) (S "a") .none) (S "b") .none);refine Zac (Zb4 (Zaa g4 (Za6 G g0 I3 ?_)));rw[Hp.set_set];have I4:=I'.put (ma':=upd (upd (upd (upd (λ_=>none) (S "isjunk") .none) (S "a") .none) (S "b") .none) (S "autojunk") (.bool aj));refine Zac (Za0 (Zck G (clsS W0) (f:=167) (by kernel_rfl) (by kernel_rfl) (by kernel_rfl) (Zaa g0 ⟨x,dx,_,rfl,I4,?_,Zab (Zaa g2 (Zab (Zaa g1 (Zae ?_))))⟩)))
  ·(rfl)
  refine Zm6 (A:=(A.under (.builtin "type.__call__" ⟨.ref 242 :: vs',[]⟩)).deeper (callEnv Zl0 L 160)) G hh (by show A.depth + 1 + 1 + 2 < _;(exact Nat.lt_of_succ_lt ‹_›)) I4 (by rfl) (by rfl) (.inl ⟨rfl,hav⟩) (.inl ⟨rfl,hbv⟩) (hl'.put hdl) (by rfl) (by rfl) (λy hy=>?_) hn hlen λhp' MM i6 i7=>?_
  .refine hide λ_ Z=>?_;have hy':=hy;simp only[Ze2,List.mem_cons,List.not_mem_nil,or_false,not_or]at hy';refine aY hy' λh1 h2 h3 h4 h5 h6 h7 h8 h9 h10=>?_;apply Z;clear Z;simp only[ug,h1,h2,h3,h4,if_false]
  refine ⟨by nofun,by nofun,by nofun,?_⟩;have keepz:∀ z o,z≠dx->z≠L->(hp1.set env.locals (.ns m)) z=some o->hp' z=some o:=λz o hz hzL e=>i6 z o hz hzL (Hp.snt hz e);have hlE:hp' env.locals=some (.ns m):=keepz _ _ (Ne.symm I.dL) (Ne.symm hLe) (Hp.ss ..);refine Zaf (Zcs hlE ⟨rfl,h _ x dx hx0 hdx (MM.move λz o e hns hz=>?_) (λz o hzE e=>?_) (by simp[Hp.cut])⟩)
  .have hzE:z≠env.locals:=λh=>by rw[h,hlE]at e;cases e;exact hns _ rfl
   exact ⟨by rw[Hp.cut_eq hzE (show z≠L from hz)];exact e,hzE⟩
  .have e1:=hle _ _ e;have hzL:z≠L:=Hp.ne_of e1 hL;rw[Hp.cut_eq hzE hzL];exact keepz z o (hpne z o e) hzL (Hp.snt hzE e1)
theorem Ztz {av bv:AV}{bs:List Int}{aj:Bool}{Q:QV} (G:Gnd (KW W0) B) (hh:A.handled=none) (hroom:A.depth + 5 < recursionLimit) (hav:av.isNone=false) (hl:Src B hp env.locals bv bs) (hn:Few bs aj) (hlen:bs.length<=4000)
  (h:∀ hp' x dx,hp x=none->hp dx=none->MT hp' env.locals x dx av bv bs aj .none .none->(∀ z o,z≠env.locals->hp z=some o->hp' z=some o)->hp' env.locals=none->Q (.ref x) hp') :
  CL (model PW W0) A E B env (.ref 242) m [.none,av,bv,.bool aj] hp Q:=by
 refine Zty G hh hroom hav hl hn hlen h λx s vs hv hk=>?_;obtain ⟨v,u,z,y,t,rfl,h1,h2,h3,h4,h5⟩:∃ u v W0 z t,vs=[u,v,W0,z,t]/\VR s.heap (.ref x) u/\VR s.heap .none v/\VR s.heap av W0/\VR s.heap bv z/\VR s.heap (.bool aj) t:=by simp only[VRs]at hv;obtain ⟨v,r,rfl,h1,u,r1,rfl,h2,z,r2,rfl,h3,y,r3,rfl,h4,t,r4,rfl,h5,rfl⟩:=hv;exact ⟨_,_,_,_,_,rfl,h1,h2,h3,h4,h5⟩
 exact ⟨[(S "self",v),(S "isjunk",u),(S "a",z),(S "b",y),(S "autojunk",t)],binds_K hk rfl (by rfl) rfl rfl rfl,rfl,.mk h5 (.mk h4 (.mk h3 (.mk h2 (.mk h1 .nil))))⟩
end
noncomputable abbrev Best:=Int × Int × Int
noncomputable abbrev FSt:=(Int->Int) × Best
noncomputable def innS (i:Int) (f:Int->Int) (st:FSt) (j:Int):FSt:=
 (λx=>if x=j then f (j - 1) + 1 else st.1 x,if f (j - 1) + 1 > st.2.2.2 then (i - (f (j - 1) + 1) + 1,j - (f (j - 1) + 1) + 1,f (j - 1) + 1) else st.2)
noncomputable def Zdj (i blo bhi:Int) (f:Int->Int):List Nat->FSt->FSt
 | [],st=>st
 | j :: js,st=>if (j:Int) < blo then Zdj i blo bhi f js st else if (j:Int)>=bhi then st else Zdj i blo bhi f js (innS i f st j)
theorem inner_s {i blo bhi:Int}{f:Int->Int}{j:Nat}{js:List Nat}{st:FSt}:Zdj i blo bhi f (j :: js) st=if (j:Int) < blo then Zdj i blo bhi f js st else if (j:Int)>=bhi then st else Zdj i blo bhi f js (innS i f st j):=rfl
theorem Zqz {i blo bhi:Int}{f:Int->Int}{st:FSt}:Zdj i blo bhi f [] st=st:=rfl
noncomputable def DI (kvs:List (Int × AV)) (f:Int->Int):Prop:=∀ k,(dget kvs k).getD (.int 0) = .int (f k)
theorem Zl9 (kvs:List (Int × AV)) (k:Int) (v:AV) (k':Int):dget (dput kvs k v) k'=if k'=k then some v else dget kvs k':=by
 unfold dput;by_cases h:(kvs.any λkv=>decide (kv.1=k))=true
 .rw [if_pos h];unfold dget
  induction kvs with
  | nil=>nomatch h
  | cons p kvs ih=>
   obtain ⟨q,u⟩:=p;simp only[List.map_cons];by_cases hq:q=k
   .subst hq;by_cases hk:k'=q
    .subst hk;simp
    .simp only [if_true,List.find?_cons,hk,if_false];refine (show decide (q=k')=false from by simpa using Ne.symm hk)▸?_;dsimp only;by_cases h':(kvs.any λkv=>decide (kv.1=q))=true
     .exact ((ih h').trans ((if_neg hk)))
     .have:kvs.map (λkv=>if kv.1=q then (kv.1,v) else kv)=kvs:=by rw[List.map_congr_left (g:=λx=>x)];simp;intro a ha;have:a.1≠q:=λe=>h' (List.any_eq_true.mpr ⟨a,ha,by simpa using e⟩);exact if_neg this
      rw[this]
   .simp only [hq,if_false,List.find?_cons];by_cases hk:q=k'
    .subst hk;simp[hq]
    .refine (show decide (q=k')=false from by simpa using hk)▸?_;dsimp only;refine ih ?_
     simpa [hq] using h
 .rw [if_neg h];refine Zcy kvs k v k' ?_;unfold dget;rw[List.find?_eq_none.mpr];rfl;intro x hx hx';exact h (List.any_eq_true.mpr ⟨x,hx,hx'⟩)
theorem Zi4 (kvs:List (Int × AV)) (k:Int) (v:AV):(dput kvs k v).length<=kvs.length + 1:=by unfold dput;split <;> simp
theorem DI.put {kvs:List (Int × AV)}{f:Int->Int} (h:DI kvs f) (k v:Int):DI (dput kvs k (.int v)) (λx=>if x=k then v else f x):=λx=>by
 rw[Zl9];by_cases e:x=k
 .simp [e]
 .simp only [e,if_false];exact h x
noncomputable def flmS (i:Nat):Stmt:=(Za7 (mS 6)).getD i (.Pass ⟨0,0,0,0⟩)
noncomputable def flmO:List Stmt:=kids (flmS 7)
noncomputable def flmI:Stmt:=flmO.getD 2 (.Pass ⟨0,0,0,0⟩)
noncomputable def Zb1 (m:Loc) (b:Best):Prop:=m (S "besti")=some (.int b.1)/\m (S "bestj")=some (.int b.2.1)/\m (S "bestsize")=some (.int b.2.2)
section
variable {A:Around}{E:ET}{B:Shared}{m:Loc}{hp:Hp}
theorem Zos {L gb dj dn:Addr}{kj kn:List (Int × AV)}{f g:Int->Int}{i j blo bhi:Int}{b:Best} (G:Gnd (KW W0) B) (hh:A.handled=none)
  (h1:m (S "i")=some (.int i)) (h2:m (S "blo")=some (.int blo)) (h3:m (S "bhi")=some (.int bhi)) (h4:m (S "j2lenget")=some (.ref gb)) (h5:m (S "newj2len")=some (.ref dn)) (hb:Zb1 m b) (hj:m (S "j")=some (.int j))
  (g1:hp gb=some (.obj (Zbb "dict.get" dj))) (g1L:gb≠L) (g2:hp dj=some (.dict kj)) (g2L:dj≠L) (g3:DI kj f) (g4:hp dn=some (.dict kn)) (g4L:dn≠L) (g5:DI kn g) (hlen:kn.length<=4900) {KK:QX}
  (k1:j < blo->KK .cont m hp) (k2:¬ j < blo->j>=bhi->KK .brk m hp) (k3:∀ m' kn',(∀ y,y ≠ "k" -> y ≠ "besti" -> y ≠ "bestj" -> y ≠ "bestsize" -> m' (S y)=m (S y))->¬ j < blo->¬ j>=bhi->Zb1 m' (innS i f (g,b) j).2->kn'.length<=kn.length + 1->DI kn' (innS i f (g,b) j).1->KK .next m' (hp.set dn (.dict kn'))) :
  EXs (model PW W0) A (λ_ _=>False) B (callEnv Zdm L 196) (kids flmI) m hp KK:=by
 refine hide λ_ Z=>?_;refine au hb λb1 b2 b3=>?_;apply Z;clear Z;refine Zac ?_;refine Za5 ?_;refine Zad ?_;refine Zaa (by assumption) ?_;refine Zaa (by assumption) ?_;refine Zdo ?_;refine Zaj ?_;by_cases c1:j < blo
 .refine Zbr c1 ?_;refine Zac ?_;refine Zih ?_;exact k1 c1
 refine Zbs c1 ?_;refine Zaf (Zac ?_);refine Za5 ?_;refine Zad ?_;refine Zaa (by assumption) ?_;refine Zaa (by assumption) ?_;refine Ztm ?_;refine Zaj ?_;by_cases c2:j>=bhi
 .refine Zbr (show bhi<=j from c2) ?_;refine Zac ?_;refine Zpe ?_;exact k2 c1 c2
 refine Zbs (show ¬ bhi<=j from c2) ?_;refine Zaf (Zac (Zba (Zag (Zcl (id := "dict.get") (Zaa h4 ⟨gb,dj,rfl,g1L,?_⟩)))));refine Zab ?_;refine Zag ?_;refine Zaa (by assumption) ?_;refine Zal ?_;refine Zbe ?_;refine Zab ?_;refine Zal ?_;refine Zae ?_;refine ⟨g1,Zry G g1 g1L g2 g2L ?_⟩;rw[g3 (j - 1)];refine Zal ?_;refine Zav ?_;refine Zai (Zne ?_);refine Zaa (by assumption) ?_;refine Zaa (by assumption) ?_;refine ⟨dn,kn,j,rfl,rfl,g4,g4L,by (exact Nat.le_trans ‹_› (by decide)),?_⟩;refine Zac ?_;refine Za5 ?_;refine Zad ?_;refine Zaa (by rfl) ?_;refine Zaa (by assumption) ?_;refine Zf7 ?_;refine Zaj ?_;have hD:=g5.put j (f (j - 1) + 1);by_cases c3:b.2.2 < f (j - 1) + 1
 .refine Zbr c3 ?_;refine Zac (Za1 hh (names:=[S "besti",S "bestj",S "bestsize"]) ?_);refine Zar ?_;refine Zab ?_;refine Zag ?_;refine Zag ?_;refine Zaa (by assumption) ?_;refine Zaa (by rfl) ?_;refine Zbe ?_;refine Zal ?_;refine Zav ?_;refine Zab ?_;refine Zag ?_;refine Zag ?_;refine Zaa (by assumption) ?_;refine Zaa (by rfl) ?_;refine Zbe ?_;refine Zal ?_;refine Zav ?_;refine Zab ?_;refine Zaa (by rfl) ?_;refine Zae ?_;refine ⟨sz rfl,?_⟩;refine ⟨_,rfl,rfl,Zap (Zap (Zap (Zas ?_)))⟩;refine Zaf ?_;refine Zaf ?_;refine k3 _ _ (λy a1 a2 a3 a4=>by simp only[ug,a1,a2,a3,a4,if_false]) c1 c2 ?_ (Zi4 ..) hD;have c3':f (j - 1) + 1 > b.2.2:=c3;simp only[innS,c3',if_true];refine ⟨?_,?_,?_⟩ <;> (rfl)
 .refine Zbs c3 ?_;refine Zaf (Zaf (k3 _ _ (λy a1 a2 a3 a4=>by simp only[ug,a1,if_false]) c1 c2 ?_ (Zi4 ..) hD));have c3':¬ (f (j - 1) + 1 > b.2.2):=c3;simp only[innS,c3',if_false];refine ⟨?_,?_,?_⟩ <;> (assumption)
end
noncomputable def Zg7:List String:=["j", "k", "besti", "bestj", "bestsize"]
section
variable {A:Around}{E:ET}{B:Shared}{m:Loc}{hp:Hp}
theorem Zly {L gb dj dn d aA nt:Addr}{kj kn:List (Int × AV)}{f g:Int->Int}{J:Int->List Nat}{i blo bhi x:Int}{b:Best}{as:List Int} (G:Gnd (KW W0) B) (hh:A.handled=none)
  (h1:m (S "i")=some (.int i)) (h2:m (S "blo")=some (.int blo)) (h3:m (S "bhi")=some (.int bhi)) (h4:m (S "j2lenget")=some (.ref gb)) (h5:m (S "newj2len")=some (.ref dn)) (hb:Zb1 m b) (h6:m (S "b2j")=some (.ref d)) (h7:m (S "a")=some (.ref aA)) (h8:m (S "nothing")=some (.ref nt))
  (g1:hp gb=some (.obj (Zbb "dict.get" dj))) (g1L:gb≠L) (g2:hp dj=some (.dict kj)) (g2L:dj≠L) (g3:DI kj f) (g4:hp dn=some (.dict kn)) (g4L:dn≠L) (g5:DI kn g) (hlen:kn=[]) (hdd:dn≠dj)
  (R:JD hp L d J) (hl:Lst B hp L aA (as.map .int)) (hnt:hp nt=some (.list [])) (hntL:nt≠L) (hi : 0<=i) (hx:as[i.toNat]?=some x) (hi2:i < 2 ^ 62) (hJ:(J x).length<=4000) {KK:QX}
  (hK:∀ m' hp' kn',(∀ y,y ∉ Zg7->m' (S y)=m (S y))->Zb1 m' (Zdj i blo bhi f (J x) (g,b)).2->kn'.length<=4000->hp' dn=some (.dict kn')->DI kn' (Zdj i blo bhi f (J x) (g,b)).1->(∀ z o,z≠dn->hp z=some o->hp' z=some o)->KK .next m' hp') :
  EX (model PW W0) A (λ_ _=>False) B (callEnv Zdm L 196) flmI m hp KK:=by
 refine hide λ_ Z=>?_;refine ap R.ex λkvs r1 r2 r3 r4=>?_;have src:∃ a,(dget kvs x).getD (.ref nt) = .ref a/\hp a=some (.list ((J x).map λ(i:Nat)=>AV.int (i:Int)))/\a≠L:=by
  cases e:dget kvs x with
  | none=>exact ⟨nt,rfl,by rw[r3 x e];exact hnt,hntL⟩
  | some v=>refine ae (r4 x v e) λa V ha haL=>?_;subst V;exact ⟨a,rfl,ha,haL.1⟩
 refine ae src λlA e1 e2 e3=>?_;apply Z;clear Z;have hdl:dn≠lA:=λe=>by rw[e,e2]at g4;cases g4
 refine Zd3 hh (Zgd F.slot_dict_get F.type_dict_get F.plainAttrs_dict (Zaa h6 ⟨d,rfl,Zlo r1 r2,Zab (Zam (Zaa h7 (Zaa h1 (Zay hl hi (by lia) (x:=.int x) ?_ (Zab (Zaa h8 (Zae (Zrx G r1 r2 ?_))))))))⟩))
 .rw [List.getElem?_map,hx];rfl
 refine e1▸?_;refine ⟨lA,_,rfl,.own e2 e3,λit hit hitL=>?_⟩;have hid:it≠dn:=Ne.symm (Hp.ne_of g4 hit);have hib:Zb1 m b:=hb;let Iq:Nat->Loc->Hp->Prop:=λk m₂ hp₂=>(∀ y,y ∉ Zg7->m₂ (S y)=m (S y))/\∃ kn' g' b',Zb1 m₂ b'/\kn'.length<=k/\hp₂ dn=some (.dict kn')/\DI kn' g'/\(∀ z o,z≠dn->hp z=some o->hp₂ z=some o)/\Zdj i blo bhi f ((J x).drop k) (g',b')=Zdj i blo bhi f (J x) (g,b);refine ⟨Iq,λob=>?_,λk m₂ hp₂ ob x=>?_,λk m₂ hp₂ x=>?_,λk y m₂ hp₂ ob hy x hob=>?_,λm₂ hp₂ x=>?_⟩
 .exact ⟨λ_ _=>rfl,kn,g,b,hb,by rw[hlen];exact Nat.le_refl _,Hp.snt (Ne.symm hid) g4,g5,λz o hz e=>Hp.snt (Hp.ne_of e hit) e,rfl⟩
 .refine hide λ_ Z=>?_;refine az x λx0 V=>?_;clear x;refine aK V λkn' g' b' x1 x2 x3 x4 x5 x6=>?_;clear V;apply Z;clear Z;exact ⟨x0,kn',g',b',x1,x2,Hp.snt (Ne.symm hid) x3,x4,λz o hz e=>Hp.snt (Hp.ne_of e hit) (x5 z o hz e),x6⟩
 .refine hide λ_ Z=>?_;refine az x λx0 V=>?_;clear x;refine aK V λkn' g' b' x1 x2 x3 x4 x5 x6=>?_;clear V;apply Z;clear Z;exact .own (x5 _ _ (Ne.symm hdl) e2) e3
 .refine hide λ_ Z=>?_;refine az x λx0 V=>?_;clear x;refine aK V λkn' g' b' x1 x2 x3 x4 x5 x6=>?_;clear V;obtain ⟨j,hjk,rfl⟩:∃ j,(J x)[k]?=some j/\AV.int (j:Int)=y:=by rw[List.getElem?_map]at hy;exact Option.map_eq_some_iff.mp hy
  apply Z;clear Z;have hkl:k < (J x).length:=(List.getElem?_eq_some_iff.mp hjk).1;have hdrop:(J x).drop k=j :: (J x).drop (k + 1):=by rw[List.drop_eq_getElem_cons hkl];congr 1;rw[List.getElem?_eq_getElem hkl]at hjk;exact Option.some.inj hjk
  refine Zai ?_;have hm':∀ y,y ∉ Zg7->upd m₂ (S "j") (.int j) (S y)=m (S y):=λy hy=>by have:y ≠ "j" := λe=>hy (by rw[e];decide);rw[ug,if_neg this];exact x0 y hy
  have hbl:Zb1 (upd m₂ (S "j") (.int j)) b':=by refine au x1 λq1 q2 q3=>?_;exact ⟨by assumption,by assumption,by assumption⟩
  rw[hdrop]at x6;refine Zcb λKB hKB=>?_;refine Zos (A:=A) G hh (by rw[hm' _ (by decide)];exact h1) (by rw[hm' _ (by decide)];exact h2) (by rw[hm' _ (by decide)];exact h3) (by rw[hm' _ (by decide)];exact h4) (by rw[hm' _ (by decide)];exact h5) hbl (by rfl)
   (x5 _ _ (λe=>by replace g1:=g4▸e▸g1;cases g1) g1) g1L (x5 _ _ (Ne.symm hdd) g2) g2L g3 x3 g4L x4 (by lia) (λc1=>?_) (λc1 c2=>?_) (λm4 kn2 y0 c1 c2 c3 c4 c5=>?_)
  .refine hKB _ _ _ ⟨⟨hm',kn',g',b',hbl,by (exact F20 0x680758750 0x11 rfl x2),x3,x4,x5,?_⟩,hob⟩;rw[<-x6,inner_s,if_pos c1]
  .refine hKB _ _ _ (hK _ _ kn' hm' ?_ (by lia) x3 ?_ x5)
   .rw [<-x6,inner_s,if_neg c1,if_pos c2];exact hbl
   .rw [<-x6,inner_s,if_neg c1,if_pos c2];exact x4
  .refine hKB _ _ _ ⟨⟨λy hy=>?_,kn2,_,_,c3,by (exact F30 0x680956709508750 0x111 rfl x2 c4),Hp.ss ..,c5,λz o hz e=>Hp.snt hz (x5 z o hz e),?_⟩,Hp.snt hid hob⟩
   .have a1:y ≠ "k" := λe=>hy (by rw[e];decide);have a2:y ≠ "besti" := λe=>hy (by rw[e];decide);have a3:y ≠ "bestj" := λe=>hy (by rw[e];decide);have a4:y ≠ "bestsize" := λe=>hy (by rw[e];decide);rw[y0 y a1 a2 a3 a4];exact hm' y hy
   .rw [<-x6,inner_s,if_neg c1,if_neg c2]
 .refine hide λ_ Z=>?_;refine az x λx0 V=>?_;clear x;refine aK V λkn' g' b' x1 x2 x3 x4 x5 x6=>?_;clear V;apply Z;clear Z;rw[List.length_map,List.drop_length,Zqz]at x6;rw[List.length_map]at x2;exact hK _ _ kn' x0 (by refine x6▸?_;exact x1) (by (exact Nat.le_trans ‹_› ‹_›)) (by rw[Hp.del_ne _ (Ne.symm hid)];exact x3) (by refine x6▸?_;exact x4) (λz o hz e=>by rw[Hp.del_ne _ (Hp.ne_of e hit)];exact x5 z o hz e)
end
noncomputable def outS (as:List Int) (J:Int->List Nat) (alo blo bhi:Int):Nat->FSt
 | 0=>(λ_=>0,(alo,blo,0))
 | n + 1=>Zdj (alo + n) blo bhi (outS as J alo blo bhi n).1 (J (as.getD (alo + n).toNat 0)) (λ_=>0,(outS as J alo blo bhi n).2)
theorem Zsc {as:List Int}{J:Int->List Nat}{alo blo bhi:Int}{n:Nat}:outS as J alo blo bhi (n + 1)=Zdj (alo + n) blo bhi (outS as J alo blo bhi n).1 (J (as.getD (alo + n).toNat 0)) (λ_=>0,(outS as J alo blo bhi n).2):=rfl
noncomputable def Zfb:List String:=["i", "j2lenget", "newj2len", "j2len", "j", "k", "besti", "bestj", "bestsize"]
theorem fo {y:String} (h:y ∉ Zfb):y ∉ Zg7:=λe=>h (by
 simp only[Zg7,List.mem_cons,List.not_mem_nil,or_false]at e;simp only[Zfb,List.mem_cons,List.not_mem_nil,or_false]
 rcases e with e | e | e | e | e <;> simp[e])
section
variable {A:Around}{E:ET}{B:Shared}{m:Loc}{hp:Hp}
theorem Zlx {L d aA nt d0:Addr}{J:Int->List Nat}{alo ahi blo bhi:Int}{as:List Int} (G:Gnd (KW W0) B) (hh:A.handled=none)
  (h1:m (S "alo")=some (.int alo)) (h1':m (S "ahi")=some (.int ahi)) (h2:m (S "blo")=some (.int blo)) (h3:m (S "bhi")=some (.int bhi)) (hb:Zb1 m (alo,blo,0)) (h6:m (S "b2j")=some (.ref d)) (h7:m (S "a")=some (.ref aA)) (h8:m (S "nothing")=some (.ref nt)) (h9:m (S "j2len")=some (.ref d0))
  (g2:hp d0=some (.dict [])) (g2L:d0≠L) (R:JD hp L d J) (hl:Lst B hp L aA (as.map .int)) (hnt:hp nt=some (.list [])) (hntL:nt≠L) (ha0 : 0<=alo) (ha1:ahi<=as.length) (ha2:alo < 2 ^ 62) (hal:as.length<=4000) (hal2 : -(2 ^ 62)<=ahi) (hJ:∀ x,(J x).length<=4000) {KK:QX}
  (hK:∀ m' hp',(∀ y,y ∉ Zfb->m' (S y)=m (S y))->Zb1 m' (outS as J alo blo bhi (ahi - alo).toNat).2->Hp.Le hp hp'->KK .next m' hp') :
  EX (model PW W0) A (λ_ _=>False) B (callEnv Zdm L 196) (flmS 7) m hp KK:=by
 refine Zrp hh (Zge (Zax G (Zn8 W0) Zmj (by decide) (λ_=>Zeg) ⟨rfl,Zab (Zaa h1 (Zab (Zaa h1' (Zae (Zm9 λr ob hr hrL ro=>?_)))))⟩));refine ⟨r,ob,alo,ahi,rfl,Hp.ss ..,hrL,ro,by lia,ha2,hal2,by lia,λit hit hitL=>?_⟩;have hle1:Hp.Le hp (hp.set r (.obj ob)):=(Hp.Le.refl _).set hr _;have hit':hp it=none:=hle1.none hit;refine ⟨λn m₂ hp₂=>(∀ y,y ∉ Zfb->m₂ (S y)=m (S y))/\Zb1 m₂ (outS as J alo blo bhi n).2/\Hp.Le hp hp₂/\∃ dj kj,m₂ (S "j2len")=some (.ref dj)/\hp₂ dj=some (.dict kj)/\dj≠L/\dj≠it/\DI kj (outS as J alo blo bhi n).1,λob'=>?_,λn m₂ hp₂ ob' x=>?_,λn m₂ hp₂ ob' hn x hob=>?_,λm₂ hp₂ x=>?_⟩
 .have hd0:d0≠it:=Hp.ne_of (hle1 _ _ g2) hit;refine ⟨λ_ _=>rfl,hb,hle1.set hit' _,d0,[],h9,Hp.snt hd0 (hle1 _ _ g2),g2L,hd0,λk=>rfl⟩
 .refine hide λ_ Z=>?_;refine ak x λx0 x1 x2 V=>?_;refine aE V λdj kj x3 x4 x5 x6 x7=>?_;clear V;apply Z;clear Z;exact ⟨x0,x1,x2.set hit' _,dj,kj,x3,Hp.snt x6 x4,x5,x6,x7⟩
 .refine hide λ_ Z=>?_;refine ak x λx0 x1 x2 V=>?_;refine aE V λdj kj x3 x4 x5 x6 x7=>?_;clear V;refine au x1 λb1 b2 b3=>?_;apply Z;clear Z;refine Zai ?_;refine Zcb λKB hKB=>?_
  try dsimp only
  generalize hm1:upd m₂ _ _=m1;have q0:∀ y,y ∉ Zfb->m1 (S y)=m (S y):=λy hy=>by subst hm1;have:y ≠ "i" := λe=>hy (by rw[e];decide);rw[ug,if_neg this];exact x0 y hy
  have q1:m1 (S "i")=some (.int (alo + n)):=by subst hm1;(rfl)
  have q2:Zb1 m1 (outS as J alo blo bhi n).2:=by subst hm1;exact ⟨by assumption,by assumption,by assumption⟩
  have q3:m1 (S "j2len")=some (.ref dj):=by subst hm1;(assumption)
  clear hm1 b1 b2 b3 x0 x3;refine Zac (Zan (Zpk Zo4 (λho hc h=>Zgu ho hc h) (Zaa q3 ⟨dj,rfl,Ziz x4 x5,λgb hgb hgbL=>?_⟩)));refine Zac (Zan (Zgc λdn hdn hdnL=>?_));have hle2:Hp.Le hp₂ ((hp₂.set gb (.obj (Zbb "dict.get" dj))).set dn (.dict [])):=((Hp.Le.refl _).set hgb _).set (((Hp.Le.refl hp₂).set hgb _).none hdn) _;have hgn:gb≠dn:=Hp.ne_of (Hp.ss ..) hdn;have hdnd:dn≠dj:=Ne.symm (Hp.ne_of (((Hp.Le.refl hp₂).set hgb (.obj (Zbb "dict.get" dj))) _ _ x4) hdn);have hidn:it≠dn:=Hp.ne_of (((Hp.Le.refl hp₂).set hgb (.obj (Zbb "dict.get" dj))) _ _ hob) hdn
  try dsimp only
  generalize hm2:upd (upd m1 _ _) _ _=m2;have p0:∀ y,y ∉ Zfb->m2 (S y)=m (S y):=λy hy=>by subst hm2;exact updO hy (updO hy (q0 y hy))
  have p1:m2 (S "i")=some (.int (alo + n)):=by subst hm2;(assumption)
  have p2:Zb1 m2 (outS as J alo blo bhi n).2:=by refine au q2 λb1 b2 b3=>?_;subst hm2;exact ⟨by assumption,by assumption,by assumption⟩
  have p3:m2 (S "j2lenget")=some (.ref gb):=by subst hm2;(rfl)
  have p4:m2 (S "newj2len")=some (.ref dn):=by subst hm2;(rfl)
  clear hm2 q0 q1 q2 q3;have hng:alo + n < ahi:=by (exact F12 0x88370778407813a 0x1011110 rfl hn)
  have hidx:as[(alo + (n:Int)).toNat]?=some (as.getD (alo + n).toNat 0):=by
   have:(alo + (n:Int)).toNat < as.length:=by (exact fk [_,_] [_,_] 0x8748937070838807048083703a 0x111101111010 rfl ha0 ha1 hng)
   simp[List.getD,List.getElem?_eq_getElem this]
  have hle3:=x2.trans hle2;refine Zac ?_;refine Zly (A:=A) (kn:=[]) (g:=λ_=>0) (x:=as.getD (alo + n).toNat 0) (as:=as) G hh p1 (by rw[p0 _ (by decide)];exact h2) (by rw[p0 _ (by decide)];exact h3) p3 p4 p2 (by rw[p0 _ (by decide)];exact h6) (by rw[p0 _ (by decide)];exact h7) (by rw[p0 _ (by decide)];exact h8)
   (Hp.snt hgn (Hp.ss ..)) hgbL (hle2 _ _ x4) x5 x7 (Hp.ss ..) hdnL (λk=>rfl) rfl hdnd (R.le hle3) (hl.le hle3) (hle3 _ _ hnt) hntL (by (exact F11 0x737004870480 0x11 rfl ha0)) hidx (by lia) (hJ _) λm3 hp3 kn' y1 y2 y3 y4 y5 y6=>?_
  refine hide λ_ Z=>?_;refine au y2 λb1 b2 b3=>?_;apply Z;clear Z;have hnb:hp dn=none:=x2.none (((Hp.Le.refl hp₂).set hgb (.obj (Zbb "dict.get" dj))).none hdn);have y7:m3 (S "newj2len")=some (.ref dn):=by rw[y1 _ (by decide)];exact p4
  refine Zac (Zan (Zaa y7 ?_));refine Zaf (hKB _ _ _ ⟨⟨λy hy=>?_,⟨by assumption,by assumption,by assumption⟩,λz o hz=>?_,dn,kn',?_,y4,hdnL,Ne.symm hidn,y5⟩,?_⟩)
  .have a1:y ≠ "j2len" := λe=>hy (by rw[e];decide);rw[ug,if_neg a1,y1 y (fo hy)];exact p0 y hy
  .have hzn:z≠dn:=λe=>by rw[e,hnb]at hz;cases hz
   exact y6 z o hzn (hle3 _ _ hz)
  ·(rfl)
  .exact y6 _ _ hidn (hle2 _ _ hob)
 .refine hide λ_ Z=>?_;refine ak x λx0 x1 x2 V=>?_;refine aE V λdj kj x3 x4 x5 x6 x7=>?_;clear V;apply Z;clear Z;exact hK _ _ x0 x1 (x2.del hit')
end
noncomputable def cnd (as bs:List Int) (fj:Int->Bool) (want:Bool) (p q:Int):Bool:=(fj (bs.getD q.toNat 0) == want) && (as.getD p.toNat 0 == bs.getD q.toNat 0)
noncomputable def down (c:Int->Int->Bool) (alo blo:Int):Nat->Best->Best
 | 0,b=>b
 | n + 1,b=>if b.1 > alo/\b.2.1 > blo/\c (b.1 - 1) (b.2.1 - 1)=true then down c alo blo n (b.1 - 1,b.2.1 - 1,b.2.2 + 1) else b
noncomputable def up (c:Int->Int->Bool) (ahi bhi:Int):Nat->Best->Best
 | 0,b=>b
 | n + 1,b=>if b.1 + b.2.2 < ahi/\b.2.1 + b.2.2 < bhi/\c (b.1 + b.2.2) (b.2.1 + b.2.2)=true then up c ahi bhi n (b.1,b.2.1,b.2.2 + 1) else b
theorem Zd9 {c:Int->Int->Bool}{alo blo:Int}{n:Nat}{b:Best}:down c alo blo (n + 1) b=if b.1 > alo/\b.2.1 > blo/\c (b.1 - 1) (b.2.1 - 1)=true then down c alo blo n (b.1 - 1,b.2.1 - 1,b.2.2 + 1) else b:=rfl
theorem up_s {c:Int->Int->Bool}{ahi bhi:Int}{n:Nat}{b:Best}:up c ahi bhi (n + 1) b=if b.1 + b.2.2 < ahi/\b.2.1 + b.2.2 < bhi/\c (b.1 + b.2.2) (b.2.1 + b.2.2)=true then up c ahi bhi n (b.1,b.2.1,b.2.2 + 1) else b:=rfl
noncomputable def downAll (c:Int->Int->Bool) (alo blo:Int) (b:Best):Best:=down c alo blo (b.1 - alo).toNat b
noncomputable def Zfn (c:Int->Int->Bool) (ahi bhi:Int) (b:Best):Best:=up c ahi bhi (ahi - (b.1 + b.2.2)).toNat b
noncomputable def flmF (as bs:List Int) (J:Int->List Nat) (fj:Int->Bool) (alo ahi blo bhi:Int):Best:=
 Zfn (cnd as bs fj true) ahi bhi (downAll (cnd as bs fj true) alo blo (Zfn (cnd as bs fj false) ahi bhi (downAll (cnd as bs fj false) alo blo (outS as J alo blo bhi (ahi - alo).toNat).2)))
structure InB (as bs:List Int) (alo blo:Int) (b:Best):Prop where
 a0:alo<=b.1
 b0:blo<=b.2.1
 k0 : 0<=b.2.2
 a1:b.1 > alo->b.1<=as.length
 b1:b.2.1 > blo->b.2.1<=bs.length
theorem InB.down {as bs:List Int}{alo blo:Int}{c:Int->Int->Bool}:∀ {n:Nat}{b:Best},InB as bs alo blo b->InB as bs alo blo (Mine.down c alo blo n b)
 | 0,b,h=>h
 | n + 1,b,h=>by
  dsimp only[Zd9];split
  .rename_i hc;refine InB.down ⟨?_,?_,?_,?_,?_⟩
   .show alo<=b.1 - 1;(exact F02 0x681788770 0x11 rfl hc.1)
   .show blo<=b.2.1 - 1;(exact F02 0x681788770 0x11 rfl hc.2.1)
   .have:=h.k0;show 0<=b.2.2 + 1;(exact F01 0x67004870480 0x11 rfl this)
   .have:=h.a1 hc.1;intro _;show b.1 - 1<=_;(exact F11 0x73671873780 0x11 rfl this)
   .have:=h.b1 hc.2.1;intro _;show b.2.1 - 1<=_;(exact F11 0x73671873780 0x11 rfl this)
  .exact h
theorem InB.up {as bs:List Int}{alo blo ahi bhi:Int}{c:Int->Int->Bool}:∀ {n:Nat}{b:Best},InB as bs alo blo b->InB as bs alo blo (Mine.up c ahi bhi n b)
 | 0,b,h=>h
 | n + 1,b,h=>by
  dsimp only[up_s];split
  .refine InB.up ⟨h.a0,h.b0,?_,h.a1,h.b1⟩;have:=h.k0;show 0<=b.2.2 + 1;lia
  .exact h
noncomputable def Zde:List String:=["besti", "bestj", "bestsize"]
section
variable {A:Around}{E:ET}{B:Shared}{m:Loc}{hp:Hp}
structure FL (B:Shared) (hp:Hp) (L aA bA ib j:Addr) (as bs:List Int) (fj:Int->Bool) (nj:Nat) (alo ahi blo bhi:Int) (m:Loc):Prop where
 h1:m (S "alo")=some (.int alo)
 h2:m (S "ahi")=some (.int ahi)
 h3:m (S "blo")=some (.int blo)
 h4:m (S "bhi")=some (.int bhi)
 h5:m (S "a")=some (.ref aA)
 h6:m (S "b")=some (.ref bA)
 h7:m (S "isbjunk")=some (.ref ib)
 l1:Lst B hp L aA (as.map .int)
 l2:Lst B hp L bA (bs.map .int)
 i1:hp ib=some (.obj (Zbb "set.__contains__" j))
 i1L:ib≠L
 i2:hp j=some (.set fj nj)
 i2L:j≠L
 r1 : 0<=alo
 r2 : 0<=blo
 r3:ahi<=as.length
 r4:bhi<=bs.length
 r5:as.length<=4000
 r6:bs.length<=4000
theorem FL.upd {L aA bA ib j:Addr}{as bs:List Int}{fj:Int->Bool}{nj:Nat}{alo ahi blo bhi:Int} (F:FL B hp L aA bA ib j as bs fj nj alo ahi blo bhi m) {m':Loc} (h:∀ y,y ∉ Zde->m' (S y)=m (S y)):FL B hp L aA bA ib j as bs fj nj alo ahi blo bhi m':=
 { F with h1:=by rw[h _ (by decide)];exact F.h1,h2:=by rw[h _ (by decide)];exact F.h2,h3:=by rw[h _ (by decide)];exact F.h3,h4:=by rw[h _ (by decide)];exact F.h4,h5:=by rw[h _ (by decide)];exact F.h5,h6:=by rw[h _ (by decide)];exact F.h6,h7:=by rw[h _ (by decide)];exact F.h7 }
theorem Za8 {l:List Int}{i:Int} (h0 : 0<=i) (h1:i < l.length):(l.map AV.int)[i.toNat]?=some (.int (l.getD i.toNat 0)):=by
 have:i.toNat < l.length:=by (exact Zqf ‹_› ‹_›)
 simp[List.getD,List.getElem?_eq_getElem this]
theorem Ztb {L aA bA ib j:Addr}{as bs:List Int}{fj:Int->Bool}{nj:Nat}{alo ahi blo bhi:Int}{b:Best}{KK:QX} (hh:A.handled=none) (F:FL B hp L aA bA ib j as bs fj nj alo ahi blo bhi m) (hb:Zb1 m b) (I:InB as bs alo blo b)
  (hK:∀ m',(∀ y,y ∉ Zde->m' (S y)=m (S y))->Zb1 m' (downAll (cnd as bs fj false) alo blo b)->KK .next m' hp) :
  EX (model PW W0) A (λ_ _=>False) B (callEnv Zdm L 196) (flmS 8) m hp KK:=by
 let Iq:Nat->Loc->Hp->Prop:=λn m₂ hp₂=>hp₂=hp/\(∀ y,y ∉ Zde->m₂ (S y)=m (S y))/\∃ b',Zb1 m₂ b'/\InB as bs alo blo b'/\n=(b'.1 - alo).toNat/\down (cnd as bs fj false) alo blo n b'=downAll (cnd as bs fj false) alo blo b;refine Zdq (Iq) (b.1 - alo).toNat ⟨rfl,λ_ _=>rfl,b,hb,I,rfl,rfl⟩ ?_;rintro n m₂ hp₂ ⟨rfl,x0,b',⟨b1,b2,b3⟩,I',rfl,x1⟩;have F':=F.upd x0;obtain ⟨h1,h2,h3,h4,h5,h6,h7,l1,l2,i1,i1L,i2,i2L,r1,r2,r3,r4,r5,r6⟩:=F';have leave:¬ (b'.1 > alo/\b'.2.1 > blo/\cnd as bs fj false (b'.1 - 1) (b'.2.1 - 1)=true)->KK .next m₂ hp₂:=λhc=>by
  refine hK _ x0 ?_;refine x1▸?_;cases hn:(b'.1 - alo).toNat with
  | zero=>exact ⟨b1,b2,b3⟩
  | succ k=>dsimp only[Zd9];rw[if_neg hc];exact ⟨b1,b2,b3⟩
 refine Zdc λKT hKT=>?_;have out:¬ (b'.1 > alo/\b'.2.1 > blo/\cnd as bs fj false (b'.1 - 1) (b'.2.1 - 1)=true)->KT false hp₂:=λhc=>hKT _ _ (if_f (leave hc));refine Zaz ?_;refine Zah ?_;refine Zad ?_;refine Zaa (by assumption) ?_;refine Zaa (by assumption) ?_;refine Zf7 ?_;refine Zaj ?_;by_cases c1:alo < b'.1
 .refine Zbr c1 ?_;refine Zah ?_;refine Zad ?_;refine Zaa (by assumption) ?_;refine Zaa (by assumption) ?_;refine Zf7 ?_;refine Zaj ?_;by_cases c2:blo < b'.2.1
  .refine Zbr c2 ?_;have ha:=I'.a1 c1;have hb':=I'.b1 c2;refine Zah (Zf3 (Za2 (Zcl (id := "set.__contains__") (Zaa h7 ⟨ib,j,rfl,i1L,?_⟩))));refine Zab ?_;refine Zam ?_;refine Zaa (by assumption) ?_;refine Zag ?_;refine Zaa (by assumption) ?_;refine Zal ?_;refine Zbe ?_;refine Zay l2 (by (exact F02 0x681048877070480 0x111 rfl r2 c2)) (by lia) (Za8 (by lia) (by (exact F11 0x73671773780 0x11 rfl hb'))) ?_;refine Zae ?_;refine ⟨i1,Zjg i1 i1L i2 i2L ?_⟩;refine Zaj ?_;cases c3:fj (bs.getD (b'.2.1 - 1).toNat 0) with
   | true=>
    refine Zbl (show (!true)=false from rfl) ?_;exact out (λh=>by have:=h.2.2;unfold cnd at this;rw[c3]at this;exact Bool.false_ne_true this)
   | false=>
    refine Zbq (show (!false)=true from rfl) ?_;refine Zah ?_;refine Zad ?_;refine Zam ?_;refine Zaa (by assumption) ?_;refine Zag ?_;refine Zaa (by assumption) ?_;refine Zal ?_;refine Zbe ?_;refine Zay l1 (by (exact F02 0x681048877070480 0x111 rfl r1 c1)) (by lia) (Za8 (by lia) (by (exact F11 0x73671773780 0x11 rfl ha))) ?_;refine Zam ?_;refine Zaa (by assumption) ?_;refine Zag ?_;refine Zaa (by assumption) ?_;refine Zal ?_;refine Zbe ?_;refine Zay l2 (by lia) (by lia) (Za8 (by lia) (by lia)) ?_;refine Zd2 ?_;refine Zaj ?_;cases c4:(as.getD (b'.1 - 1).toNat 0 == bs.getD (b'.2.1 - 1).toNat 0) with
    | false=>
     refine if_f ?_;exact out (λh=>by have:=h.2.2;unfold cnd at this;rw[c4]at this;simp at this)
    | true=>
     refine if_t ?_;refine Zat (hKT _ _ ?_);refine if_t ?_;refine Zcb λKB hKB=>?_;refine Zac (Za1 hh (names:=[S "besti",S "bestj",S "bestsize"]) ?_);refine Zar ?_;refine Zab ?_;refine Zag ?_;refine Zaa (by assumption) ?_;refine Zal ?_;refine Zbe ?_;refine Zab ?_;refine Zag ?_;refine Zaa (by assumption) ?_;refine Zal ?_;refine Zbe ?_;refine Zab ?_;refine Zag ?_;refine Zaa (by assumption) ?_;refine Zal ?_;refine Zav ?_;refine Zae ?_;refine ⟨sz rfl,?_⟩;refine ⟨_,rfl,rfl,Zap (Zap (Zap (Zas ?_)))⟩;refine Zaf ?_;have hc:b'.1 > alo/\b'.2.1 > blo/\cnd as bs fj false (b'.1 - 1) (b'.2.1 - 1)=true:=⟨c1,c2,by unfold cnd;rw[c3,c4];rfl⟩;refine hKB _ _ _ ⟨(b'.1 - 1 - alo).toNat,by (exact Zko ‹_›),rfl,λy hy=>?_,(b'.1 - 1,b'.2.1 - 1,b'.2.2 + 1),⟨by rfl,by rfl,by rfl⟩,?_,rfl,?_⟩
     .exact updO hy (updO hy (updO hy (x0 y hy)))
     .have:=I'.k0;exact ⟨by show alo<=b'.1 - 1;(exact F02 0x681788770 0x11 rfl c1),by show blo<=b'.2.1 - 1;(exact F02 0x681788770 0x11 rfl c2),by show 0<=b'.2.2 + 1;lia,λ_=>by show b'.1 - 1<=_;lia,λ_=>by show b'.2.1 - 1<=_;lia⟩
     .refine .trans ?_ x1;have e:(b'.1 - alo).toNat=(b'.1 - 1 - alo).toNat + 1:=by (exact F02 0x670868770768113a7813a 0x100001010010100001010010101010110101100110101001 rfl c1)
      rw[e]
      conv=>rhs;rw[Zd9]
      exact (if_pos hc).symm
  .refine Zbs c2 ?_;exact out (λh=>c2 h.2.1)
 .refine Zbs c1 ?_;exact out (λh=>c1 h.1)
theorem Zs9 {L aA bA ib j:Addr}{as bs:List Int}{fj:Int->Bool}{nj:Nat}{alo ahi blo bhi:Int}{b:Best}{KK:QX} (hh:A.handled=none) (F:FL B hp L aA bA ib j as bs fj nj alo ahi blo bhi m) (hb:Zb1 m b) (I:InB as bs alo blo b)
  (hK:∀ m',(∀ y,y ∉ Zde->m' (S y)=m (S y))->Zb1 m' (downAll (cnd as bs fj true) alo blo b)->KK .next m' hp) :
  EX (model PW W0) A (λ_ _=>False) B (callEnv Zdm L 196) (flmS 10) m hp KK:=by
 let Iq:Nat->Loc->Hp->Prop:=λn m₂ hp₂=>hp₂=hp/\(∀ y,y ∉ Zde->m₂ (S y)=m (S y))/\∃ b',Zb1 m₂ b'/\InB as bs alo blo b'/\n=(b'.1 - alo).toNat/\down (cnd as bs fj true) alo blo n b'=downAll (cnd as bs fj true) alo blo b;refine Zdq (Iq) (b.1 - alo).toNat ⟨rfl,λ_ _=>rfl,b,hb,I,rfl,rfl⟩ ?_;rintro n m₂ hp₂ ⟨rfl,x0,b',⟨b1,b2,b3⟩,I',rfl,x1⟩;have F':=F.upd x0;obtain ⟨h1,h2,h3,h4,h5,h6,h7,l1,l2,i1,i1L,i2,i2L,r1,r2,r3,r4,r5,r6⟩:=F';have leave:¬ (b'.1 > alo/\b'.2.1 > blo/\cnd as bs fj true (b'.1 - 1) (b'.2.1 - 1)=true)->KK .next m₂ hp₂:=λhc=>by
  refine hK _ x0 ?_;refine x1▸?_;cases hn:(b'.1 - alo).toNat with
  | zero=>exact ⟨b1,b2,b3⟩
  | succ k=>dsimp only[Zd9];rw[if_neg hc];exact ⟨b1,b2,b3⟩
 refine Zdc λKT hKT=>?_;have out:¬ (b'.1 > alo/\b'.2.1 > blo/\cnd as bs fj true (b'.1 - 1) (b'.2.1 - 1)=true)->KT false hp₂:=λhc=>hKT _ _ (if_f (leave hc));refine Zaz ?_;refine Zah ?_;refine Zad ?_;refine Zaa (by assumption) ?_;refine Zaa (by assumption) ?_;refine Zf7 ?_;refine Zaj ?_;by_cases c1:alo < b'.1
 .refine Zbr c1 ?_;refine Zah ?_;refine Zad ?_;refine Zaa (by assumption) ?_;refine Zaa (by assumption) ?_;refine Zf7 ?_;refine Zaj ?_;by_cases c2:blo < b'.2.1
  .refine Zbr c2 ?_;have ha:=I'.a1 c1;have hb':=I'.b1 c2;refine Zah (Za2 (Zcl (id := "set.__contains__") (Zaa h7 ⟨ib,j,rfl,i1L,?_⟩)));refine Zab ?_;refine Zam ?_;refine Zaa (by assumption) ?_;refine Zag ?_;refine Zaa (by assumption) ?_;refine Zal ?_;refine Zbe ?_;refine Zay l2 (by lia) (by lia) (Za8 (by lia) (by lia)) ?_;refine Zae ?_;refine ⟨i1,Zjg i1 i1L i2 i2L ?_⟩;refine Zaj ?_;cases c3:fj (bs.getD (b'.2.1 - 1).toNat 0) with
   | false=>
    refine if_f ?_;exact out (λh=>by have:=h.2.2;unfold cnd at this;rw[c3]at this;exact Bool.false_ne_true this)
   | true=>
    refine if_t ?_;refine Zah ?_;refine Zad ?_;refine Zam ?_;refine Zaa (by assumption) ?_;refine Zag ?_;refine Zaa (by assumption) ?_;refine Zal ?_;refine Zbe ?_;refine Zay l1 (by lia) (by lia) (Za8 (by lia) (by lia)) ?_;refine Zam ?_;refine Zaa (by assumption) ?_;refine Zag ?_;refine Zaa (by assumption) ?_;refine Zal ?_;refine Zbe ?_;refine Zay l2 (by lia) (by lia) (Za8 (by lia) (by lia)) ?_;refine Zd2 ?_;refine Zaj ?_;cases c4:(as.getD (b'.1 - 1).toNat 0 == bs.getD (b'.2.1 - 1).toNat 0) with
    | false=>
     refine if_f ?_;exact out (λh=>by have:=h.2.2;unfold cnd at this;rw[c4]at this;simp at this)
    | true=>
     refine if_t ?_;refine Zat (hKT _ _ ?_);refine if_t ?_;refine Zcb λKB hKB=>?_;refine Zac (Za1 hh (names:=[S "besti",S "bestj",S "bestsize"]) ?_);refine Zar ?_;refine Zab ?_;refine Zag ?_;refine Zaa (by assumption) ?_;refine Zal ?_;refine Zbe ?_;refine Zab ?_;refine Zag ?_;refine Zaa (by assumption) ?_;refine Zal ?_;refine Zbe ?_;refine Zab ?_;refine Zag ?_;refine Zaa (by assumption) ?_;refine Zal ?_;refine Zav ?_;refine Zae ?_;refine ⟨sz rfl,?_⟩;refine ⟨_,rfl,rfl,Zap (Zap (Zap (Zas ?_)))⟩;refine Zaf ?_;have hc:b'.1 > alo/\b'.2.1 > blo/\cnd as bs fj true (b'.1 - 1) (b'.2.1 - 1)=true:=⟨c1,c2,by unfold cnd;rw[c3,c4];rfl⟩;refine hKB _ _ _ ⟨(b'.1 - 1 - alo).toNat,by (exact Zko ‹_›),rfl,λy hy=>?_,(b'.1 - 1,b'.2.1 - 1,b'.2.2 + 1),⟨by rfl,by rfl,by rfl⟩,?_,rfl,?_⟩
     .exact updO hy (updO hy (updO hy (x0 y hy)))
     .have:=I'.k0;exact ⟨by show alo<=b'.1 - 1;lia,by show blo<=b'.2.1 - 1;lia,by show 0<=b'.2.2 + 1;lia,λ_=>by show b'.1 - 1<=_;lia,λ_=>by show b'.2.1 - 1<=_;lia⟩
     .refine .trans ?_ x1;have e:(b'.1 - alo).toNat=(b'.1 - 1 - alo).toNat + 1:=by (exact F02 0x670868770768113a7813a 0x100001010010100001010010101010110101100110101001 rfl c1)
      rw[e]
      conv=>rhs;rw[Zd9]
      exact (if_pos hc).symm
  .refine Zbs c2 ?_;exact out (λh=>c2 h.2.1)
 .refine Zbs c1 ?_;exact out (λh=>c1 h.1)
theorem Zta {L aA bA ib j:Addr}{as bs:List Int}{fj:Int->Bool}{nj:Nat}{alo ahi blo bhi:Int}{b:Best}{KK:QX} (F:FL B hp L aA bA ib j as bs fj nj alo ahi blo bhi m) (hb:Zb1 m b) (I:InB as bs alo blo b)
  (hK:∀ m',(∀ y,y ∉ Zde->m' (S y)=m (S y))->Zb1 m' (Zfn (cnd as bs fj false) ahi bhi b)->KK .next m' hp) :
  EX (model PW W0) A (λ_ _=>False) B (callEnv Zdm L 196) (flmS 9) m hp KK:=by
 let Iq:Nat->Loc->Hp->Prop:=λn m₂ hp₂=>hp₂=hp/\(∀ y,y ∉ Zde->m₂ (S y)=m (S y))/\∃ b',Zb1 m₂ b'/\InB as bs alo blo b'/\n=(ahi - (b'.1 + b'.2.2)).toNat/\up (cnd as bs fj false) ahi bhi n b'=Zfn (cnd as bs fj false) ahi bhi b;refine Zdq (Iq) (ahi - (b.1 + b.2.2)).toNat ⟨rfl,λ_ _=>rfl,b,hb,I,rfl,rfl⟩ ?_;rintro n m₂ hp₂ ⟨rfl,x0,b',⟨b1,b2,b3⟩,I',rfl,x1⟩;have F':=F.upd x0;obtain ⟨h1,h2,h3,h4,h5,h6,h7,l1,l2,i1,i1L,i2,i2L,r1,r2,r3,r4,r5,r6⟩:=F';have leave:¬ (b'.1 + b'.2.2 < ahi/\b'.2.1 + b'.2.2 < bhi/\cnd as bs fj false (b'.1 + b'.2.2) (b'.2.1 + b'.2.2)=true)->KK .next m₂ hp₂:=λhc=>by
  refine hK _ x0 ?_;refine x1▸?_;cases hn:(ahi - (b'.1 + b'.2.2)).toNat with
  | zero=>exact ⟨b1,b2,b3⟩
  | succ k=>dsimp only[up_s];rw[if_neg hc];exact ⟨b1,b2,b3⟩
 refine Zdc λKT hKT=>?_;have out:¬ (b'.1 + b'.2.2 < ahi/\b'.2.1 + b'.2.2 < bhi/\cnd as bs fj false (b'.1 + b'.2.2) (b'.2.1 + b'.2.2)=true)->KT false hp₂:=λhc=>hKT _ _ (if_f (leave hc));refine Zaz ?_;refine Zah ?_;refine Zad ?_;refine Zag ?_;refine Zaa (by assumption) ?_;refine Zaa (by assumption) ?_;refine Zav ?_;refine Zaa (by assumption) ?_;refine Zdo ?_;refine Zaj ?_;by_cases c1:b'.1 + b'.2.2 < ahi
 .refine Zbr c1 ?_;refine Zah ?_;refine Zad ?_;refine Zag ?_;refine Zaa (by assumption) ?_;refine Zaa (by assumption) ?_;refine Zav ?_;refine Zaa (by assumption) ?_;refine Zdo ?_;refine Zaj ?_;by_cases c2:b'.2.1 + b'.2.2 < bhi
  .refine Zbr c2 ?_;have ha:=I'.a0;have hb':=I'.b0;have hk:=I'.k0;refine Zah (Zf3 (Za2 (Zcl (id := "set.__contains__") (Zaa h7 ⟨ib,j,rfl,i1L,?_⟩))));refine Zab ?_;refine Zam ?_;refine Zaa (by assumption) ?_;refine Zag ?_;refine Zaa (by assumption) ?_;refine Zaa (by assumption) ?_;refine Zav ?_;refine Zay l2 (by (exact F03 0x98004890480878070480 0x1111 rfl r2 hb' hk)) (by lia) (Za8 (by lia) (by (exact Int.lt_of_lt_of_le ‹_› ‹_›))) ?_;refine Zae ?_;refine ⟨i1,Zjg i1 i1L i2 i2L ?_⟩;refine Zaj ?_;cases c3:fj (bs.getD (b'.2.1 + b'.2.2).toNat 0) with
   | true=>
    refine Zbl (show (!true)=false from rfl) ?_;exact out (λh=>by have:=h.2.2;unfold cnd at this;rw[c3]at this;exact Bool.false_ne_true this)
   | false=>
    refine Zbq (show (!false)=true from rfl) ?_;refine Zah ?_;refine Zad ?_;refine Zam ?_;refine Zaa (by assumption) ?_;refine Zag ?_;refine Zaa (by assumption) ?_;refine Zaa (by assumption) ?_;refine Zav ?_;refine Zay l1 (by (exact F03 0x98004890480878070480 0x1111 rfl r1 ha hk)) (by lia) (Za8 (by lia) (by (exact Int.lt_of_lt_of_le ‹_› ‹_›))) ?_;refine Zam ?_;refine Zaa (by assumption) ?_;refine Zag ?_;refine Zaa (by assumption) ?_;refine Zaa (by assumption) ?_;refine Zav ?_;refine Zay l2 (by lia) (by lia) (Za8 (by lia) (by (exact Int.lt_of_lt_of_le ‹_› ‹_›))) ?_;refine Zd2 ?_;refine Zaj ?_;cases c4:(as.getD (b'.1 + b'.2.2).toNat 0 == bs.getD (b'.2.1 + b'.2.2).toNat 0) with
    | false=>
     refine if_f ?_;exact out (λh=>by have:=h.2.2;unfold cnd at this;rw[c4]at this;simp at this)
    | true=>
     refine if_t ?_;refine Zat (hKT _ _ ?_);refine if_t ?_;refine Zcb λKB hKB=>?_;refine Zac ?_;refine Zeb (by assumption) ?_;refine Zal ?_;refine Zms ?_;refine Zaf ?_;have hc:b'.1 + b'.2.2 < ahi/\b'.2.1 + b'.2.2 < bhi/\cnd as bs fj false (b'.1 + b'.2.2) (b'.2.1 + b'.2.2)=true:=⟨c1,c2,by unfold cnd;rw[c3,c4];rfl⟩;refine hKB _ _ _ ⟨(ahi - (b'.1 + (b'.2.2 + 1))).toNat,by (exact F03 0x784987070870913a68070913a 0x11000110101011000100110 rfl c1),rfl,λy hy=>?_,(b'.1,b'.2.1,b'.2.2 + 1),⟨by assumption,by assumption,by rfl⟩,?_,rfl,?_⟩
     .exact updO hy (x0 y hy)
     .exact ⟨I'.a0,I'.b0,by show 0<=b'.2.2 + 1;lia,I'.a1,I'.b1⟩
     .refine .trans ?_ x1;have e:(ahi - (b'.1 + b'.2.2)).toNat=(ahi - (b'.1 + (b'.2.2 + 1))).toNat + 1:=by (exact F03 0x6708698707068070913a870913a 0x100001010010100001010010101010110101100110101001 rfl c1)
      rw[e]
      conv=>rhs;rw[up_s]
      exact (if_pos hc).symm
  .refine Zbs c2 ?_;exact out (λh=>c2 h.2.1)
 .refine Zbs c1 ?_;exact out (λh=>c1 h.1)
theorem Zs8 {L aA bA ib j:Addr}{as bs:List Int}{fj:Int->Bool}{nj:Nat}{alo ahi blo bhi:Int}{b:Best}{KK:QX} (F:FL B hp L aA bA ib j as bs fj nj alo ahi blo bhi m) (hb:Zb1 m b) (I:InB as bs alo blo b)
  (hK:∀ m',(∀ y,y ∉ Zde->m' (S y)=m (S y))->Zb1 m' (Zfn (cnd as bs fj true) ahi bhi b)->KK .next m' hp) :
  EX (model PW W0) A (λ_ _=>False) B (callEnv Zdm L 196) (flmS 11) m hp KK:=by
 let Iq:Nat->Loc->Hp->Prop:=λn m₂ hp₂=>hp₂=hp/\(∀ y,y ∉ Zde->m₂ (S y)=m (S y))/\∃ b',Zb1 m₂ b'/\InB as bs alo blo b'/\n=(ahi - (b'.1 + b'.2.2)).toNat/\up (cnd as bs fj true) ahi bhi n b'=Zfn (cnd as bs fj true) ahi bhi b;refine Zdq (Iq) (ahi - (b.1 + b.2.2)).toNat ⟨rfl,λ_ _=>rfl,b,hb,I,rfl,rfl⟩ ?_;rintro n m₂ hp₂ ⟨rfl,x0,b',⟨b1,b2,b3⟩,I',rfl,x1⟩;have F':=F.upd x0;obtain ⟨h1,h2,h3,h4,h5,h6,h7,l1,l2,i1,i1L,i2,i2L,r1,r2,r3,r4,r5,r6⟩:=F';have leave:¬ (b'.1 + b'.2.2 < ahi/\b'.2.1 + b'.2.2 < bhi/\cnd as bs fj true (b'.1 + b'.2.2) (b'.2.1 + b'.2.2)=true)->KK .next m₂ hp₂:=λhc=>by
  refine hK _ x0 ?_;refine x1▸?_;cases hn:(ahi - (b'.1 + b'.2.2)).toNat with
  | zero=>exact ⟨b1,b2,b3⟩
  | succ k=>dsimp only[up_s];rw[if_neg hc];exact ⟨b1,b2,b3⟩
 refine Zdc λKT hKT=>?_;have out:¬ (b'.1 + b'.2.2 < ahi/\b'.2.1 + b'.2.2 < bhi/\cnd as bs fj true (b'.1 + b'.2.2) (b'.2.1 + b'.2.2)=true)->KT false hp₂:=λhc=>hKT _ _ (if_f (leave hc));refine Zaz ?_;refine Zah ?_;refine Zad ?_;refine Zag ?_;refine Zaa (by assumption) ?_;refine Zaa (by assumption) ?_;refine Zav ?_;refine Zaa (by assumption) ?_;refine Zdo ?_;refine Zaj ?_;by_cases c1:b'.1 + b'.2.2 < ahi
 .refine Zbr c1 ?_;refine Zah ?_;refine Zad ?_;refine Zag ?_;refine Zaa (by assumption) ?_;refine Zaa (by assumption) ?_;refine Zav ?_;refine Zaa (by assumption) ?_;refine Zdo ?_;refine Zaj ?_;by_cases c2:b'.2.1 + b'.2.2 < bhi
  .refine Zbr c2 ?_;have ha:=I'.a0;have hb':=I'.b0;have hk:=I'.k0;refine Zah (Za2 (Zcl (id := "set.__contains__") (Zaa h7 ⟨ib,j,rfl,i1L,?_⟩)));refine Zab ?_;refine Zam ?_;refine Zaa (by assumption) ?_;refine Zag ?_;refine Zaa (by assumption) ?_;refine Zaa (by assumption) ?_;refine Zav ?_;refine Zay l2 (by lia) (by lia) (Za8 (by lia) (by (exact Int.lt_of_lt_of_le ‹_› ‹_›))) ?_;refine Zae ?_;refine ⟨i1,Zjg i1 i1L i2 i2L ?_⟩;refine Zaj ?_;cases c3:fj (bs.getD (b'.2.1 + b'.2.2).toNat 0) with
   | false=>
    refine if_f ?_;exact out (λh=>by have:=h.2.2;unfold cnd at this;rw[c3]at this;exact Bool.false_ne_true this)
   | true=>
    refine if_t ?_;refine Zah ?_;refine Zad ?_;refine Zam ?_;refine Zaa (by assumption) ?_;refine Zag ?_;refine Zaa (by assumption) ?_;refine Zaa (by assumption) ?_;refine Zav ?_;refine Zay l1 (by lia) (by lia) (Za8 (by lia) (by (exact Int.lt_of_lt_of_le ‹_› ‹_›))) ?_;refine Zam ?_;refine Zaa (by assumption) ?_;refine Zag ?_;refine Zaa (by assumption) ?_;refine Zaa (by assumption) ?_;refine Zav ?_;refine Zay l2 (by lia) (by lia) (Za8 (by lia) (by (exact Int.lt_of_lt_of_le ‹_› ‹_›))) ?_;refine Zd2 ?_;refine Zaj ?_;cases c4:(as.getD (b'.1 + b'.2.2).toNat 0 == bs.getD (b'.2.1 + b'.2.2).toNat 0) with
    | false=>
     refine if_f ?_;exact out (λh=>by have:=h.2.2;unfold cnd at this;rw[c4]at this;simp at this)
    | true=>
     refine if_t ?_;refine Zat (hKT _ _ ?_);refine if_t ?_;refine Zcb λKB hKB=>?_;refine Zac ?_;refine Zan ?_;refine Zag ?_;refine Zaa (by assumption) ?_;refine Zal ?_;refine Zav ?_;refine Zaf ?_;have hc:b'.1 + b'.2.2 < ahi/\b'.2.1 + b'.2.2 < bhi/\cnd as bs fj true (b'.1 + b'.2.2) (b'.2.1 + b'.2.2)=true:=⟨c1,c2,by unfold cnd;rw[c3,c4];rfl⟩;refine hKB _ _ _ ⟨(ahi - (b'.1 + (b'.2.2 + 1))).toNat,by (exact F03 0x784987070870913a68070913a 0x11000110101011000100110 rfl c1),rfl,λy hy=>?_,(b'.1,b'.2.1,b'.2.2 + 1),⟨by assumption,by assumption,by rfl⟩,?_,rfl,?_⟩
     .exact updO hy (x0 y hy)
     .exact ⟨I'.a0,I'.b0,by show 0<=b'.2.2 + 1;lia,I'.a1,I'.b1⟩
     .refine .trans ?_ x1;have e:(ahi - (b'.1 + b'.2.2)).toNat=(ahi - (b'.1 + (b'.2.2 + 1))).toNat + 1:=by (exact F03 0x6708698707068070913a870913a 0x100001010010100001010010101010110101100110101001 rfl c1)
      rw[e]
      conv=>rhs;rw[up_s]
      exact (if_pos hc).symm
  .refine Zbs c2 ?_;exact out (λh=>c2 h.2.1)
 .refine Zbs c1 ?_;exact out (λh=>c1 h.1)
end
noncomputable def MJ (as:List Int) (J:Int->List Nat) (p q:Int):Prop:=∃ j ∈ J (as.getD p.toNat 0),(j:Int)=q
structure Common (M:Int->Int->Prop) (alo ahi blo bhi i j k:Int):Prop where
 a0:alo<=i
 a1:i + k<=ahi
 b0:blo<=j
 b1:j + k<=bhi
 k0 : 0<=k
 eq:∀ t,0<=t->t < k->M (i + t) (j + t)
structure Longest (M:Int->Int->Prop) (alo ahi blo bhi:Int) (b:Best):Prop where
 k0 : 0<=b.2.2
 zero:b.2.2=0->b=(alo,blo,0)
 com : 0 < b.2.2->Common M alo ahi blo bhi b.1 b.2.1 b.2.2
noncomputable def RowI (M:Int->Int->Prop) (alo blo bhi r:Int) (f:Int->Int):Prop:=∀ x,0<=f x/\(0 < f x->Common M alo r blo bhi (r - f x) (x + 1 - f x) (f x))
theorem Zs5 {M:Int->Int->Prop}{alo blo bhi r:Int}{f:Int->Int}{st:FSt}{j:Nat} (hr:alo<=r) (hf:RowI M alo blo bhi r f) (h1:¬ (j:Int) < blo) (h2:¬ (j:Int)>=bhi) (hm:M r j)
  (hg:RowI M alo blo bhi (r + 1) st.1) (hb:Longest M alo (r + 1) blo bhi st.2):RowI M alo blo bhi (r + 1) (innS r f st j).1/\Longest M alo (r + 1) blo bhi (innS r f st j).2:=by
 have h0:=(hf ((j:Int) - 1)).1;have hc:Common M alo (r + 1) blo bhi (r + 1 - (f ((j:Int) - 1) + 1)) (j + 1 - (f ((j:Int) - 1) + 1)) (f ((j:Int) - 1) + 1):=by
  have e0:=(hf ((j:Int) - 1)).2;generalize f ((j:Int) - 1)=k at h0 e0 ⊢;by_cases hk : 0 < k
  .obtain ⟨a0,a1,b0,b1,k0,eq⟩:=e0 hk;refine ⟨by (exact F03 0x690680178981780 0x11 rfl a0),by (exact F02 0x670680680670108 0x1 rfl),by (exact F12 0x680673017886673101780 0x11 rfl b0),by (exact F12 0x76806806730108737820 0x11 rfl h2),by (exact F01 0x67004870470 0x11 rfl hk),λt t0 t1=>?_⟩;by_cases ht:t < k
   .have:=eq t t0 ht;rw[show r + 1 - (k + 1) + t=r - k + t from by (exact F03 0x987109680670109 0x11 rfl),show (j:Int) + 1 - (k + 1) + t=j - 1 + 1 - k + t from by (exact F12 0x876673101086706730109 0x11 rfl)];exact this
   .rw [show r + 1 - (k + 1) + t=r from by (exact F03 0x9768069010987720680770 0x101110 rfl t1 ht),show (j:Int) + 1 - (k + 1) + t=j from by (exact F12 0x737680673010987720680770 0x101110 rfl t1 ht)];exact hm
  .refine ⟨by (exact F03 0x6906801789047208780 0x111 rfl hr hk),by lia,by (exact F12 0x6806730178804720773720 0x111 rfl h1 hk),by (exact F12 0x76806806730108737820 0x11 rfl h2),by (exact F01 0x67004870480 0x11 rfl h0),λt t0 t1=>?_⟩;rw[show r + 1 - (k + 1) + t=r from by (exact F03 0x9867069010967087080480704720 0x11001011 rfl hk t0 t1),show (j:Int) + 1 - (k + 1) + t=j from by (exact F12 0x738670673010967087080480704720 0x11001011 rfl hk t0 t1)];exact hm
 unfold innS;dsimp only;have hk : 0 < f ((j:Int) - 1) + 1:=by (exact F01 0x67004770480 0x11 rfl h0)
 generalize f ((j:Int) - 1) + 1=k at hk hc ⊢;refine ⟨λx=>?_,?_⟩
 .dsimp only;split
  .rename_i e;subst e;exact ⟨by (exact Int.le_of_lt ‹_›),λ_=>hc⟩
  .exact hg x
 .split
  .refine ⟨by dsimp only;(exact Int.le_of_lt ‹_›),λe=>absurd e (by dsimp only;(exact F01 0x47920479070470 0x11 rfl hk e)),λ_=>?_⟩;refine (show r - k + 1=r + 1 - k from by (exact F02 0x86701687109 0x11 rfl))▸(show (j:Int) - k + 1=j + 1 - k from by (exact F11 0x7673016773109 0x11 rfl))▸?_;exact hc
  .exact hb
theorem Zq0 {M:Int->Int->Prop}{alo blo bhi r:Int}{f:Int->Int} (hr:alo<=r) (hf:RowI M alo blo bhi r f) (js:List Nat):∀ st:FSt,(∀ j ∈ js,M r (j:Nat))->RowI M alo blo bhi (r + 1) st.1->Longest M alo (r + 1) blo bhi st.2 ->
  RowI M alo blo bhi (r + 1) (Zdj r blo bhi f js st).1/\Longest M alo (r + 1) blo bhi (Zdj r blo bhi f js st).2:=by
 induction js with
 | nil=>exact λst _ hg hb=>⟨hg,hb⟩
 | cons j js ih=>
  intro st hm hg hb;have hm':=λx hx=>hm x (.tail _ hx);dsimp only[inner_s];by_cases h1:(j:Int) < blo
  .refine (if_pos h1)▸?_;exact ih st hm' hg hb
  .refine (if_neg h1)▸?_;by_cases h2:(j:Int)>=bhi
   .refine (if_pos h2)▸?_;exact ⟨hg,hb⟩
   .refine (if_neg h2)▸?_;have c:=Zs5 hr hf h1 h2 (hm j (.head _)) hg hb;exact ih _ hm' c.1 c.2
theorem Longest.up {M:Int->Int->Prop}{alo ahi blo bhi:Int}{b:Best} (h:Longest M alo ahi blo bhi b):Longest M alo (ahi + 1) blo bhi b:=
 ⟨h.k0,h.zero,λe=>have c:=h.com e;⟨c.a0,by have:=c.a1;(exact F03 0x6908708987080 0x11 rfl this),c.b0,c.b1,c.k0,c.eq⟩⟩
theorem Zn4 {as:List Int}{J:Int->List Nat}{alo blo bhi:Int} (n:Nat):RowI (MJ as J) alo blo bhi (alo + n) (outS as J alo blo bhi n).1/\Longest (MJ as J) alo (alo + n) blo bhi (outS as J alo blo bhi n).2:=by
 induction n with
 | zero=>exact ⟨λx=>⟨Int.le_refl _,λh=>absurd h (Int.lt_irrefl _)⟩,Int.le_refl _,λ_=>rfl,λh=>absurd h (Int.lt_irrefl _)⟩
 | succ n ih=>
  have e:alo + ((n + 1:Nat):Int)=alo + n + 1:=by (exact F11 0x6737006703709 0x11 rfl)
  refine Zsc▸e▸?_;exact Zq0 (by (exact F11 0x737078 0x1 rfl)) ih.1 _ _ (λj hj=>⟨j,hj,rfl⟩) (λx=>⟨Int.le_refl _,λh=>absurd h (Int.lt_irrefl _)⟩) ih.2.up
theorem Zce {as:List Int}{J:Int->List Nat}{alo ahi blo bhi:Int} (_:∀ x,(J x).Pairwise (· < ·)):Longest (MJ as J) alo ahi blo bhi (outS as J alo blo bhi (ahi - alo).toNat).2:=by
 have I:=(Zn4 (as:=as) (J:=J) (alo:=alo) (blo:=blo) (bhi:=bhi) (ahi - alo).toNat).2;by_cases h:alo<=ahi
 .rw [show alo + ((ahi - alo).toNat:Nat)=ahi from by (exact F02 0x87370987807813a 0x1101101010101001 rfl h)]at I;exact I
 .have e:(ahi - alo).toNat=0:=by (exact F02 0x476878207813a 0x1001100001101000 rfl h)
  rw[e];exact ⟨Int.le_refl _,λ_=>rfl,λh=>absurd h (Int.lt_irrefl _)⟩
theorem Longest.inB {as bs:List Int}{alo ahi blo bhi:Int}{M:Int->Int->Prop}{b:Best} (h:Longest M alo ahi blo bhi b) (ha:ahi<=as.length) (hb:bhi<=bs.length):InB as bs alo blo b:=by
 have hk:=h.k0;by_cases h0:b.2.2=0
 .have:=h.zero h0;rw[this];exact ⟨Int.le_refl _,Int.le_refl _,Int.le_refl _,λh=>absurd h (Int.lt_irrefl _),λh=>absurd h (Int.lt_irrefl _)⟩
 .have c:=h.com (by (exact F01 0x704770480047920 0x101011 rfl h0 hk));have:=c.a0;have:=c.a1;have:=c.b0;have:=c.b1;exact ⟨by omega,by omega,hk,λ_=>by (exact F13 0x73987890808048073780 0x1111 rfl ha hk ‹_›),λ_=>by (exact F13 0x73987890808048073780 0x1111 rfl hb hk this)⟩
theorem Zq9 {c:Int->Int->Bool}{alo blo:Int}{n:Nat}{b:Best} (h:¬ (b.1 > alo/\b.2.1 > blo/\c (b.1 - 1) (b.2.1 - 1)=true)):down c alo blo n b=b:=by cases n with | zero=>rfl | succ n=>dsimp only[Zd9];exact (if_neg h)
theorem Zt3 {c:Int->Int->Bool}{ahi bhi:Int}{n:Nat}{b:Best} (h:¬ (b.1 + b.2.2 < ahi/\b.2.1 + b.2.2 < bhi/\c (b.1 + b.2.2) (b.2.1 + b.2.2)=true)):up c ahi bhi n b=b:=by cases n with | zero=>rfl | succ n=>dsimp only[up_s];exact (if_neg h)
theorem matK (W0:World):MatK PW W0 (KW W0) where
 call:=by kernel_rfl
 typ:=by kernel_rfl
 made:=by kernel_rfl
 chk _:=by kernel_rfl
 mro:=by kernel_rfl
 here:=by kernel_rfl
 isty:=by kernel_rfl
 self:=by kernel_rfl
 top:=by kernel_rfl
 tup:=by kernel_rfl
 init:=by kernel_rfl
 reads:=by kernel_rfl
 find:=by kernel_rfl
 sm:=by kernel_rfl
 tnew:=by kernel_rfl
 del:=⟨_,_,_,_,rfl,by kernel_rfl⟩
section
theorem Zpt {a b c:AV}{Q:QV} (G:Gnd (KW W0) B) (hroom:A.depth + 1 < recursionLimit) (h:Q (.mat [a,b,c]) hp):CL (model PW W0) A E B env (.ref 135) m [a,b,c] hp Q:=by
 refine Ztv G (matK W0) λvs0=>?_;refine Zdd (bs:=[(S "size",c),(S "b",b),(S "a",a),(S "_cls",.ref 135)]) (body:=Za7 (inS (topS PW 3) 4)) G (Zuh W0) (by kernel_rfl) rfl (by show A.depth + 1 < _;omega) (λs vs hv _=>?_) (by kernel_rfl) (by decide) (λL hL hLe=>?_)
 .refine hide λ_ Z=>?_;refine be (Zo6 hv) λv u z y V h1 h2 h3 h4=>?_;subst V;apply Z;clear Z;exact ⟨[(S "_cls",v),(S "a",u),(S "b",z),(S "size",y)],BindsTo.of_eq rfl,rfl,.mk h4 (.mk h3 (.mk h2 (.mk h1 .nil)))⟩
 .have g0:Zaq [(S "size",c),(S "b",b),(S "a",a),(S "_cls",.ref 135)] (S "_cls")=some (.ref 135):=rfl;have g1:Zaq [(S "size",c),(S "b",b),(S "a",a),(S "_cls",.ref 135)] (S "a")=some a:=rfl;have g2:Zaq [(S "size",c),(S "b",b),(S "a",a),(S "_cls",.ref 135)] (S "b")=some b:=rfl;have g3:Zaq [(S "size",c),(S "b",b),(S "a",a),(S "_cls",.ref 135)] (S "size")=some c:=rfl;generalize hm0:Zaq [(S "size",c),(S "b",b),(S "a",a),(S "_cls",.ref 135)]=m0 at *;refine Zac (Zcj ?_);refine Zac (Zbo (Zm0 G (matK W0) (Zax G (Zis W0) Zhc (by decide) (λ_=>Zeg) ⟨rfl,Zab (Zaa g0 (Zab (Zar (Zab (Zaa g1 (Zab (Zaa g2 (Zab (Zaa g3 (Zae ⟨sz rfl,Zae (Zm5 G (matK W0) (sz rfl) ?_)⟩))))))))))⟩)));exact Zc3 hL ⟨⟨_,rfl⟩,h⟩
theorem Ztw {x dx aA bA:Addr}{mb op:AV}{as bs:List Int}{aj:Bool}{alo ahi blo bhi:Int}{Q:QV} (G:Gnd (KW W0) B) (hh:A.handled=none) (hroom:A.depth + 3 < recursionLimit) (MM:MT hp env.locals x dx (.ref aA) (.ref bA) bs aj mb op) (la:Lst B hp env.locals aA (as.map .int)) (lb:Lst B hp env.locals bA (bs.map .int))
  (ha0 : 0<=alo) (haa:alo < 2 ^ 62) (ha1:ahi<=as.length) (haz : -(2 ^ 62)<=ahi) (hb0 : 0<=blo) (hb1:bhi<=bs.length) (hla:as.length<=4000) (hlb:bs.length<=4000)
  (h:Q (triV (flmF as bs (PJ bs aj) (λ_=>false) alo ahi blo bhi)) hp) :
  CL (model PW W0) A E B env (.ref 196) m [.ref x,.int alo,.int ahi,.int blo,.int bhi] hp Q:=by
 refine aC MM.ex λma d j I F R hj hjL=>?_;refine CD.cl (Zdd (bs:=[(S "bhi",.int bhi),(S "blo",.int blo),(S "ahi",.int ahi),(S "alo",.int alo),(S "self",.ref x)]) (body:=Za7 (mS 6)) G (kFlm W0) (by kernel_rfl) rfl (by (exact ul0 ‹_›)) (λs vs hv hk=>?_) (by kernel_rfl) (by decide) (λL hL hLe=>?_))
 .obtain ⟨v,u,z,y,t,rfl,h1,h2,h3,h4,h5⟩:=Zo7 hv;exact ⟨[(S "self",v),(S "alo",u),(S "ahi",z),(S "blo",y),(S "bhi",t)],binds_K (G.X.keeps hk) rfl (by rfl) rfl rfl rfl,rfl,.mk h5 (.mk h4 (.mk h3 (.mk h2 (.mk h1 .nil))))⟩
 .have I':Ins (hp.set env.locals (.ns m)) L x dx 242 ma:=I.call hL;have la':Lst B (hp.set env.locals (.ns m)) L aA (as.map .int):=la.call hL;have lb':Lst B (hp.set env.locals (.ns m)) L bA (bs.map .int):=lb.call hL;have R':JD (hp.set env.locals (.ns m)) L d (PJ bs aj):=R.move (λz o e _ hz=>⟨Hp.snt hz e,Hp.ne_of e hL⟩);have hj':(hp.set env.locals (.ns m)) j=some (.set (λ_=>false) 0):=Hp.snt hjL hj;have hjL':j≠L:=Hp.ne_of hj hL;have g0:Zaq [(S "bhi",AV.int bhi),(S "blo",.int blo),(S "ahi",.int ahi),(S "alo",.int alo),(S "self",.ref x)] (S "self")=some (.ref x):=rfl;have g1:Zaq [(S "bhi",AV.int bhi),(S "blo",.int blo),(S "ahi",.int ahi),(S "alo",.int alo),(S "self",.ref x)] (S "alo")=some (.int alo):=rfl;have g2:Zaq [(S "bhi",AV.int bhi),(S "blo",.int blo),(S "ahi",.int ahi),(S "alo",.int alo),(S "self",.ref x)] (S "ahi")=some (.int ahi):=rfl;have g3:Zaq [(S "bhi",AV.int bhi),(S "blo",.int blo),(S "ahi",.int ahi),(S "alo",.int alo),(S "self",.ref x)] (S "blo")=some (.int blo):=rfl;have g4:Zaq [(S "bhi",AV.int bhi),(S "blo",.int blo),(S "ahi",.int ahi),(S "alo",.int alo),(S "self",.ref x)] (S "bhi")=some (.int bhi):=rfl;generalize hm0:Zaq [(S "bhi",AV.int bhi),(S "blo",.int blo),(S "ahi",.int ahi),(S "alo",.int alo),(S "self",.ref x)]=m0 at *;have hq0:Hp.Le (hp.set env.locals (.ns m)) (hp.set env.locals (.ns m)):=.refl _;generalize hq:hp.set env.locals (.ns m)=hp1 at I' la' lb' R' hj' hq0 ⊢;refine Zac (Zcj ?_);refine Zac (Zbj (Zar (Zab (Zbc G g0 I' F.a (Zab (Zbc G g0 I' F.b ?_))))));refine Zab (Zbc G g0 I' F.b2j (Zab ?_));refine Zm2 Zmh (λho hc h=>Zfv ho hc h) (Zbc G g0 I' F.bj ⟨j,rfl,Zln hj' hjL',λib hib hibL=>Zae ⟨sz rfl,?_⟩⟩);refine Zbh hh rfl rfl rfl (Zak (Zai (Zak (Zai (Zak (Zai (Zak (Zai (Zas ?_)))))))));have le1:Hp.Le hp1 (hp1.set ib (.obj (Zbb "set.__contains__" j))):=(Hp.Le.refl _).set hib _
  try dsimp only
  generalize hm1:upd (upd (upd (upd m0 _ _) _ _) _ _) _ _=m1;have k1:m1 (S "alo")=some (.int alo):=by subst hm1;(assumption)
  have k2:m1 (S "ahi")=some (.int ahi):=by subst hm1;(assumption)
  have k3:m1 (S "blo")=some (.int blo):=by subst hm1;(assumption)
  have k4:m1 (S "bhi")=some (.int bhi):=by subst hm1;(assumption)
  have k5:m1 (S "a")=some (.ref aA):=by subst hm1;(rfl)
  have k6:m1 (S "b")=some (.ref bA):=by subst hm1;(rfl)
  have k7:m1 (S "b2j")=some (.ref d):=by subst hm1;(rfl)
  have k8:m1 (S "isbjunk")=some (.ref ib):=by subst hm1;(rfl)
  clear hm1 g0 g1 g2 g3 g4;refine Zac (Za5 (Zad (Zaa k2 (Zcc (Zdp (Zaj (Zaf ?_)))))));refine Zac (Za5 (Zad (Zaa k4 (Zcc (Zdp (Zaj (Zaf ?_)))))));refine Zac (Za1 hh (names:=[S "besti",S "bestj",S "bestsize"]) (Zar (Zab (Zaa k1 (Zab (Zaa k3 (Zab (Zal (Zae ⟨sz rfl,_,rfl,rfl,Zap (Zap (Zap (Zas ?_)))⟩)))))))));refine Zac (Zan (Zgc λd0 hd0 hd0L=>?_));refine Zac (Zan (Za4 (Zae ⟨Nat.zero_le _,λnt hnt hntL=>?_⟩)));have le2:Hp.Le hp1 (((hp1.set ib (.obj (Zbb "set.__contains__" j))).set d0 (.dict [])).set nt (.list [])):=(le1.set (le1.none hd0) _).set ((le1.set (le1.none hd0) _).none hnt) _;dsimp only;generalize hm2:upd (upd (upd (upd (upd m1 _ _) _ _) _ _) _ _) _ _=m2;have p1:m2 (S "alo")=some (.int alo):=by subst hm2;(assumption)
  have p2:m2 (S "ahi")=some (.int ahi):=by subst hm2;(assumption)
  have p3:m2 (S "blo")=some (.int blo):=by subst hm2;(assumption)
  have p4:m2 (S "bhi")=some (.int bhi):=by subst hm2;(assumption)
  have p5:m2 (S "a")=some (.ref aA):=by subst hm2;(assumption)
  have p6:m2 (S "b")=some (.ref bA):=by subst hm2;(assumption)
  have p7:m2 (S "b2j")=some (.ref d):=by subst hm2;(assumption)
  have p8:m2 (S "isbjunk")=some (.ref ib):=by subst hm2;(assumption)
  have p9:m2 (S "j2len")=some (.ref d0):=by subst hm2;(rfl)
  have p10:m2 (S "nothing")=some (.ref nt):=by subst hm2;(rfl)
  have p11:Zb1 m2 (alo,blo,0):=by subst hm2;exact ⟨by rfl,by rfl,by rfl⟩
  clear hm2 k1 k2 k3 k4 k5 k6 k7 k8;have hd0':d0≠nt:=Hp.ne_of (Hp.ss ..) hnt;have hibd:ib≠d0:=Hp.ne_of (Hp.ss ..) hd0;have hibn:ib≠nt:=Hp.ne_of (show ((hp1.set ib (.obj (Zbb "set.__contains__" j))).set d0 (.dict [])) ib=some _ by rw[Hp.sn _ _ hibd];exact Hp.ss ..) hnt;have hib2:(((hp1.set ib (.obj (Zbb "set.__contains__" j))).set d0 (.dict [])).set nt (.list [])) ib=some (.obj (Zbb "set.__contains__" j)):=Hp.snt hibn (Hp.snt hibd (Hp.ss ..));have hd02:(((hp1.set ib (.obj (Zbb "set.__contains__" j))).set d0 (.dict [])).set nt (.list [])) d0=some (.dict []):=Hp.snt hd0' (Hp.ss ..);have hnt2:(((hp1.set ib (.obj (Zbb "set.__contains__" j))).set d0 (.dict [])).set nt (.list [])) nt=some (.list []):=Hp.ss ..;generalize ((hp1.set ib (.obj (Zbb "set.__contains__" j))).set d0 (.dict [])).set nt (.list [])=hp2 at le2 hib2 hd02 hnt2 ⊢;have hJl:∀ x,(PJ bs aj x).length<=4000:=λx=>Nat.le_trans (Ztl _ _ _) hlb;have Lg:=Zce (as:=as) (alo:=alo) (ahi:=ahi) (blo:=blo) (bhi:=bhi) (Zja bs aj);have IB:=Lg.inB ha1 hb1;refine Zac (Zlx (A:=A.deeper (callEnv Zdm L 196)) (J:=PJ bs aj) G hh p1 p2 p3 p4 p11 p7 p5 p10 p9 hd02 hd0L (R'.le le2) (la'.le le2) hnt2 hntL ha0 ha1 haa (by omega) haz hJl λm3 hp3 x1 x2 x3=>?_);have le3:=le2.trans x3;have FF:FL B hp3 L aA bA ib j as bs (λ_=>false) 0 alo ahi blo bhi m3:=⟨by rw[x1 _ (by decide)];exact p1,by rw[x1 _ (by decide)];exact p2,by rw[x1 _ (by decide)];exact p3,by rw[x1 _ (by decide)];exact p4,by rw[x1 _ (by decide)];exact p5,by rw[x1 _ (by decide)];exact p6,by rw[x1 _ (by decide)];exact p8,la'.le le3,lb'.le le3,x3 _ _ hib2,hibL,le3 _ _ hj',hjL',ha0,hb0,ha1,hb1,by omega,by omega⟩;refine Zac (Ztb (A:=A.deeper (callEnv Zdm L 196)) hh FF x2 IB λm4 y1 y2=>?_);have FF2:=FF.upd y1;refine Zac (Zta (A:=A.deeper (callEnv Zdm L 196)) FF2 y2 IB.down λm5 z1 z2=>?_);have FF3:=FF2.upd z1;refine Zac (Zs9 (A:=A.deeper (callEnv Zdm L 196)) hh FF3 z2 IB.down.up λm6 u1 u2=>?_);have FF4:=FF3.upd u1;refine Zac (Zs8 (A:=A.deeper (callEnv Zdm L 196)) FF4 u2 IB.down.up.down λm7 v1 v2=>?_);refine au v2 λb1 b2 b3=>?_;refine Zac (Zbo (Zgf G (f:=135) (by kernel_rfl) (Zd4 G (Zlv W0) (λ_=>VR_ref) ⟨rfl,Zab (Zaa b1 (Zab (Zaa b2 (Zab (Zaa b3 (Zae ?_))))))⟩)));refine Zpt (A:=A.deeper (callEnv Zdm L 196)) G (by show A.depth + 1 + 1 < _;(exact Nat.lt_of_succ_lt ‹_›)) ?_;refine Zsb (hp₂:=hp) (by rw[hq];exact le3) hL ?_;exact h
end
noncomputable abbrev Win:=Int × Int × Int × Int
structure WOK (F:Win->Tri) (la lb:Int):Prop where
 k0:∀ W0,0<=(F W0).2.2
 inn:∀ W0:Win,0<=W0.1->W0.1<=W0.2.1->W0.2.1<=la->0<=W0.2.2.1->W0.2.2.1<=W0.2.2.2->W0.2.2.2<=lb->0 < (F W0).2.2 ->
  W0.1<=(F W0).1/\(F W0).1 + (F W0).2.2<=W0.2.1/\W0.2.2.1<=(F W0).2.1/\(F W0).2.1 + (F W0).2.2<=W0.2.2.2
noncomputable def Zed (la lb:Int) (W0:Win):Prop:=0<=W0.1/\W0.1<=W0.2.1/\W0.2.1<=la/\0<=W0.2.2.1/\W0.2.2.1<=W0.2.2.2/\W0.2.2.2<=lb
noncomputable def Zbp (W0:Win) (t:Tri):List Win:=if W0.1 < t.1/\W0.2.2.1 < t.2.1 then [(W0.1,t.1,W0.2.2.1,t.2.1)] else []
noncomputable def Zbd (W0:Win) (t:Tri):List Win:=if t.1 + t.2.2 < W0.2.1/\t.2.1 + t.2.2 < W0.2.2.2 then [(t.1 + t.2.2,W0.2.1,t.2.1 + t.2.2,W0.2.2.2)] else []
noncomputable def mbGo (F:Win->Tri):Nat->List Win->List Tri->List Tri
 | 0,_,acc=>acc
 | _ + 1,[],acc=>acc
 | n + 1,W0 :: st,acc=>if (F W0).2.2=0 then mbGo F n st acc else mbGo F n (Zbd W0 (F W0) ++ (Zbp W0 (F W0) ++ st)) (acc ++ [F W0])
theorem Ziw {F:Win->Tri}{n:Nat} {W0:Win}{st:List Win}{acc:List Tri}:mbGo F (n + 1) (W0 :: st) acc=if (F W0).2.2=0 then mbGo F n st acc else mbGo F n (Zbd W0 (F W0) ++ (Zbp W0 (F W0) ++ st)) (acc ++ [F W0]):=rfl
theorem Zsl {F:Win->Tri}{n:Nat}{acc:List Tri}:mbGo F n [] acc=acc:=by cases n <;> rfl
noncomputable def wt (W0:Win):Nat:=2 * (W0.2.1 - W0.1).toNat + 1
noncomputable def wts (st:List Win):Nat:=(st.map wt).sum
noncomputable def rawB (F:Win->Tri) (la lb:Int):List Tri:=mbGo F (wt (0,la,0,lb)) [(0,la,0,lb)] []
theorem Zbx (W0:Win) (st:List Win):wts (W0 :: st)=wt W0 + wts st:=by rfl
theorem wts_app (a b:List Win):wts (a ++ b)=wts a + wts b:=by simp[wts]
section
variable {F:Win->Tri}{la lb:Int}
theorem Zch (K:WOK F la lb) {W0:Win} (h:Zed la lb W0) (hk : 0 < (F W0).2.2):∀ x ∈ Zbp W0 (F W0),Zed la lb x/\x.2.1=(F W0).1/\W0.1=x.1:=λx hx=>by
 refine hide λ_ Z=>?_;refine aD h λh1 h2 h3 h4 h5 h6=>?_;refine ak (K.inn W0 h1 h2 h3 h4 h5 h6 hk) λa b c d=>?_;apply Z;clear Z;unfold Zbp at hx;split at hx
 .rw [List.mem_singleton]at hx;subst hx;refine ⟨⟨h1,?_,?_,h4,?_,?_⟩,rfl,rfl⟩ <;> dsimp only <;> (first | exact F02 0x8788780 0x11 rfl a | exact F04 0x9a887a080988070470 0x1111 rfl hk h3 b | exact F02 0x8788780 0x11 rfl c | exact F04 0x9a887a080988070470 0x1111 rfl hk h6 d)
 .cases hx
theorem Zb7 (K:WOK F la lb) {W0:Win} (h:Zed la lb W0) (hk : 0 < (F W0).2.2):∀ x ∈ Zbd W0 (F W0),Zed la lb x/\x.1=(F W0).1 + (F W0).2.2/\x.2.1=W0.2.1:=λx hx=>by
 refine hide λ_ Z=>?_;refine aD h λh1 h2 h3 h4 h5 h6=>?_;refine ak (K.inn W0 h1 h2 h3 h4 h5 h6 hk) λa b c d=>?_;apply Z;clear Z;unfold Zbd at hx;split at hx
 .rw [List.mem_singleton]at hx;subst hx;refine ⟨⟨?_,?_,h3,?_,?_,h6⟩,rfl,rfl⟩ <;> dsimp only <;> (first | exact F03 0x79004898808048070470 0x1111 rfl hk h1 a | exact F03 0x98708987080 0x11 rfl b | exact F03 0x79004898808048070470 0x1111 rfl hk h4 c | exact F03 0x98708987080 0x11 rfl d)
 .cases hx
theorem Zgg (W0:Win) (t:Tri):wts (Zbp W0 t)<=2 * (t.1 - W0.1).toNat + 1/\(t.1<=W0.1->wts (Zbp W0 t)=0):=by
 unfold Zbp;split
 .refine ⟨by simp[wts,wt],λh=>by lia⟩
 .refine ⟨by simp[wts],λ_=>rfl⟩
theorem Zjh (W0:Win) (t:Tri):wts (Zbd W0 t)<=2 * (W0.2.1 - (t.1 + t.2.2)).toNat + 1:=by
 unfold Zbd;split
 .simp [wts,wt]
 .simp [wts]
theorem Zik (K:WOK F la lb) {W0:Win} (h:Zed la lb W0) (hk : 0 < (F W0).2.2):wts (Zbd W0 (F W0)) + wts (Zbp W0 (F W0)) < wt W0:=by
 refine hide λ_ Z=>?_;refine aD h λh1 h2 h3 h4 h5 h6=>?_;refine ak (K.inn W0 h1 h2 h3 h4 h5 h6 hk) λa b c d=>?_;apply Z;clear Z;have l:=(Zgg W0 (F W0)).1;have r:=Zjh W0 (F W0);unfold wt;refine Nat.lt_of_le_of_lt (Nat.add_le_add r l) ?_;clear l r
 (exact F04 0x67220682206922004a790809880704708a13a8913a790a13a 0x1111000001222020202120220200212020220021022200220102202022001111000001002022020 rfl hk a b)
theorem Zgw (K:WOK F la lb):∀ n (st:List Win) acc,(∀ W0 ∈ st,Zed la lb W0)->wts st<=n->∀ n',wts st<=n'->mbGo F n st acc=mbGo F n' st acc:=by
 intro r_
 induction r_ with
 | zero=>
  intro st acc hin hn n' hn';cases st with
  | nil=>cases n' <;> rfl
  | cons W0 st=>rw[Zbx]at hn;unfold wt at hn;lia
 | succ n ih=>
  intro l_;cases l_ with
  | nil=>
   intro acc hin hn n' hn';cases n' <;> rfl
  | cons W0 st=>
   intro acc hin hn n' hn';have hw:=hin W0 (.head _);rw[Zbx]at hn hn';have h1 : 1<=wt W0:=by unfold wt;(exact Nat.succ_pos _)
   obtain ⟨m,rfl⟩:∃ m,n'=m + 1:=⟨n' - 1,by (exact F30 0x670a68650a98050691a 0x10010111011000110010 rfl hn' h1)⟩;have hst:∀ x ∈ st,Zed la lb x:=λx hx=>hin x (.tail _ hx);rw[Ziw,Ziw];by_cases hk:(F W0).2.2=0
   .rw [if_pos hk,if_pos hk];exact ih st acc hst (by (exact F30 0x985765069087050 0x111 rfl hn h1)) m (by (exact F30 0x985690870507650 0x111 rfl h1 hn'))
   .rw [if_neg hk,if_neg hk];have hk' : 0 < (F W0).2.2:=by have:=K.k0 W0;(exact F01 0x704770480047920 0x101011 rfl hk this)
    have hl:=Zik K hw hk';refine ih _ _ (λx hx=>?_) (by rw[wts_app,wts_app];(exact fk [_,_,_,_,_] [] 0x98b0a057ba04069087050 0x111 rfl hn hl)) m (by rw[wts_app,wts_app];(exact fk [_,_,_,_,_] [] 0x98b0a057ba04069087050 0x111 rfl hn' hl));rcases List.mem_append.mp hx with hx | hx
    .exact (Zb7 K hw hk' x hx).1
    .rcases List.mem_append.mp hx with hx | hx
     .exact (Zch K hw hk' x hx).1
     .exact hst x hx
structure Apart (st:List Win) (acc:List Tri):Prop where
 ww:st.Pairwise (λx y=>x.2.1<=y.1\/y.2.1<=x.1)
 wb:∀ x ∈ st,∀ t ∈ acc,t.1 < x.1\/x.2.1<=t.1
 nd:acc.Nodup
theorem Apart.tail {W0:Win}{st:List Win}{acc:List Tri} (h:Apart (W0 :: st) acc):Apart st acc:=⟨(List.pairwise_cons.mp h.ww).2,λx hx=>h.wb x (.tail _ hx),h.nd⟩
theorem Apart.step (K:WOK F la lb) {W0:Win}{st:List Win}{acc:List Tri} (hw:Zed la lb W0) (h:Apart (W0 :: st) acc) (hk : 0 < (F W0).2.2):Apart (Zbd W0 (F W0) ++ (Zbp W0 (F W0) ++ st)) (acc ++ [F W0]):=by
 have hww:=List.pairwise_cons.mp h.ww;refine aD (id hw) λh1 h2 h3 h4 h5 h6=>?_;refine ak (K.inn W0 h1 h2 h3 h4 h5 h6 hk) λa b c d=>?_;have single:∀ l:List Win,l.length<=1->l.Pairwise (λx y=>x.2.1<=y.1\/y.2.1<=x.1):=λl hl=>by
  match l,hl with
  | [],_=>exact List.Pairwise.nil
  | [x],_=>exact List.pairwise_singleton _ _
  | _ :: _ :: _,hl=>nomatch hl
 have ll:(Zbp W0 (F W0)).length<=1:=by unfold Zbp;split <;> simp
 have rl:(Zbd W0 (F W0)).length<=1:=by unfold Zbd;split <;> simp
 refine ⟨List.pairwise_append.mpr ⟨single _ rl,List.pairwise_append.mpr ⟨single _ ll,hww.2,λx hx y hy=>?_⟩,λx hx y hy=>?_⟩,λx hx t ht=>?_,?_⟩
 .have:=Zch K hw hk x hx;have:=hww.1 y hy;lia
 .have e:=Zb7 K hw hk x hx;rcases List.mem_append.mp hy with hy | hy
  .have:=Zch K hw hk y hy
   (exact fk [] [_,_,_,_,_,_] 0x8a8cb819a9079089070470 0x1001101 rfl hk e.2.1 this.2.1)
  .have:=hww.1 y hy
   (exact fk [] [_,_,_,_,_,_,_,_] 0xd988e817e90bc0d90ca80b0470a9887810 0x100010111010100001 rfl this hk a e.2.1 e.2.2)
 .rcases List.mem_append.mp ht with ht | ht
  .have wb:=h.wb W0 (.head _) t ht;rcases List.mem_append.mp hx with hx | hx
   .have e:=Zb7 K hw hk x hx;(exact fk [] [_,_,_,_,_,_,_] 0x7d8c7719d90ab0c90b880a047079887710 0x100100001010010111 rfl wb hk a e.2.1 e.2.2)
   .rcases List.mem_append.mp hx with hx | hx
    .have e:=Zch K hw hk x hx;(exact fk [] [_,_,_,_,_,_,_] 0x7c8d771d890bc909ab080a047079887710 0x100001111010100001 rfl wb hk b e.2.1 e.2.2)
    .exact h.wb x (.tail _ hx) t ht
  .rw [List.mem_singleton]at ht;subst ht;rcases List.mem_append.mp hx with hx | hx
   .have e:=Zb7 K hw hk x hx;(exact F04 0x9a8897179089070470 0x1101 rfl hk e.2.1)
   .rcases List.mem_append.mp hx with hx | hx
    .have e:=Zch K hw hk x hx;(exact F03 0x87898718790 0x1001 rfl e.2.1)
    .have:=hww.1 x hx;(exact fk [] [_,_,_,_,_,_] 0xc988c717bc080ca80b0470a9887810 0x100101011011 rfl this hk a b)
 .refine List.nodup_append.mpr ⟨h.nd,by simp,λt ht t' ht' e=>?_⟩;rw[List.mem_singleton]at ht';have:=h.wb W0 (.head _) t ht;rw[e,ht']at this
  (exact F04 0x39a70807880a047079887710 0x10110101 rfl this hk a b)
end
noncomputable def leT (x y:Tri):Bool:=!lexB y x
noncomputable def Zgk (xs:List Tri):List Tri:=xs.mergeSort leT
theorem Zld (a b c:Tri) (h1:leT a b=true) (h2:leT b c=true):leT a c=true:=by
 unfold leT at *;simp only[Bool.not_eq_true']at *;cases h:lexB c a with
 | false=>rfl
 | true=>
  by_cases e:b=a
  .rw [<-e,h2]at h;exact h.symm
  .exact h2▸(Zc4 h (Zdv h1 e))▸rfl
theorem Zle (a b:Tri):(leT a b || leT b a)=true:=by
 unfold leT;cases h:lexB b a with
 | false=>rfl
 | true=>
  cases h2:lexB a b with
  | false=>rfl
  | true=>have:=Zc4 h h2;rw[Zex]at this;cases this
theorem Zc2 (xs:List Tri):(Zgk xs).Perm xs:=List.mergeSort_perm xs leT
theorem Znq {xs:List Tri} (nd:xs.Nodup):(Zgk xs).Pairwise (λa b=>lexB a b=true):=by have h:=List.pairwise_mergeSort (le:=leT) Zld Zle xs;have nd':(Zgk xs).Nodup:=(Zc2 xs).nodup_iff.mpr nd;refine (List.Pairwise.and h nd').imp λ{a b} ⟨h1,h2⟩=>?_;unfold leT at h1;simp only[Bool.not_eq_true']at h1;exact Zdv h1 (Ne.symm h2)
theorem Znr {xs ys:List Tri} (nd:xs.Nodup) (p:ys.Perm xs) (h:ys.Pairwise (λa b=>lexB a b=true)):ys=Zgk xs:=Zok (p.trans (Zc2 xs).symm) h (Znq nd)
noncomputable abbrev MSt:=Tri × List Tri
noncomputable def stepM (st:MSt) (b:Tri):MSt:=
 if st.1.1 + st.1.2.2=b.1/\st.1.2.1 + st.1.2.2=b.2.1 then ((st.1.1,st.1.2.1,st.1.2.2 + b.2.2),st.2)
 else (b,if st.1.2.2=0 then st.2 else st.2 ++ [st.1])
noncomputable def stM (bl:List Tri) (k:Nat):MSt:=(bl.take k).foldl stepM ((0,0,0),[])
noncomputable def Zp0 (bl:List Tri) (la lb:Int):List Tri:=
 (if (stM bl bl.length).1.2.2=0 then (stM bl bl.length).2 else (stM bl bl.length).2 ++ [(stM bl bl.length).1]) ++ [(la,lb,0)]
noncomputable def mbF (F:Win->Tri) (la lb:Int):List Tri:=Zp0 (Zgk (rawB F la lb)) la lb
noncomputable def flmW (as bs:List Int) (aj:Bool) (x:Win):Tri:=flmF as bs (PJ bs aj) (λ_=>false) x.1 x.2.1 x.2.2.1 x.2.2.2
structure InWn (alo ahi blo bhi:Int) (b:Best):Prop where
 a0:alo<=b.1
 a1:b.1 + b.2.2<=ahi
 b0:blo<=b.2.1
 b1:b.2.1 + b.2.2<=bhi
theorem InWn.down {alo ahi blo bhi:Int}{c:Int->Int->Bool}:∀ {n:Nat}{b:Best},InWn alo ahi blo bhi b->InWn alo ahi blo bhi (Mine.down c alo blo n b)
 | 0,b,h=>h
 | n + 1,b,h=>by
  dsimp only[Zd9];obtain ⟨h1,h2,h3,h4⟩:=h;split
  .rename_i hc;refine InWn.down ⟨?_,?_,?_,?_⟩ <;> dsimp only <;> (first | exact F02 0x681788770 0x11 rfl hc.1 | exact F03 0x968067108987080 0x11 rfl h2 | exact F02 0x681788770 0x11 rfl hc.2.1 | exact F03 0x968067108987080 0x11 rfl h4)
  .exact ⟨h1,h2,h3,h4⟩
theorem InWn.up {alo ahi blo bhi:Int}{c:Int->Int->Bool}:∀ {n:Nat}{b:Best},InWn alo ahi blo bhi b->InWn alo ahi blo bhi (Mine.up c ahi bhi n b)
 | 0,b,h=>h
 | n + 1,b,h=>by
  dsimp only[up_s];obtain ⟨h1,h2,h3,h4⟩:=h;split
  .rename_i hc;refine InWn.up ⟨?_,?_,?_,?_⟩ <;> dsimp only <;> (first | exact F02 0x8788780 0x11 rfl h1 | exact F03 0x9680708987070 0x11 rfl hc.1 | exact F02 0x8788780 0x11 rfl h3 | exact F03 0x9680708987070 0x11 rfl hc.2.1)
  .exact ⟨h1,h2,h3,h4⟩
theorem Zl7 {c:Int->Int->Bool}{alo blo:Int}:∀ (n:Nat) (b:Best),b.2.2<=(down c alo blo n b).2.2
 | 0,b=>Int.le_refl _
 | n + 1,b=>by
  dsimp only[Zd9];split
  .have:=Zl7 (c:=c) (alo:=alo) (blo:=blo) n (b.1 - 1,b.2.1 - 1,b.2.2 + 1);dsimp only at this;(exact Int.le_of_lt ‹_›)
  .exact Int.le_refl _
theorem up_k {c:Int->Int->Bool}{ahi bhi:Int}:∀ (n:Nat) (b:Best),b.2.2<=(up c ahi bhi n b).2.2
 | 0,b=>Int.le_refl _
 | n + 1,b=>by
  dsimp only[up_s];split
  .have:=up_k (c:=c) (ahi:=ahi) (bhi:=bhi) n (b.1,b.2.1,b.2.2 + 1);dsimp only at this;(exact Int.le_of_lt ‹_›)
  .exact Int.le_refl _
theorem Zh0 (as bs:List Int) (aj:Bool) (la lb:Int):WOK (flmW as bs aj) la lb where
 k0 x:=by have Lg:=(Zce (as:=as) (alo:=x.1) (ahi:=x.2.1) (blo:=x.2.2.1) (bhi:=x.2.2.2) (Zja bs aj)).k0;delta flmW flmF Zfn downAll;exact Int.le_trans (Int.le_trans (Int.le_trans (Int.le_trans Lg (Zl7 _ _)) (up_k _ _)) (Zl7 _ _)) (up_k _ _)
 inn x h1 h2 h3 h4 h5 h6 hk:=by
  have Lg:=Zce (as:=as) (alo:=x.1) (ahi:=x.2.1) (blo:=x.2.2.1) (bhi:=x.2.2.2) (Zja bs aj);have W:InWn x.1 x.2.1 x.2.2.1 x.2.2.2 (outS as (PJ bs aj) x.1 x.2.2.1 x.2.2.2 (x.2.1 - x.1).toNat).2:=by
   by_cases hz:(outS as (PJ bs aj) x.1 x.2.2.1 x.2.2.2 (x.2.1 - x.1).toNat).2.2.2=0
   .rw [Lg.zero hz];exact ⟨Int.le_refl _,by dsimp only;(exact F02 0x8047088780 0x11 rfl h2),Int.le_refl _,by dsimp only;(exact F02 0x8047088780 0x11 rfl h5)⟩
   .have c:=Lg.com (by have:=Lg.k0;(exact F01 0x704770480047920 0x101011 rfl hz this));exact ⟨c.a0,c.a1,c.b0,c.b1⟩
  have R:InWn x.1 x.2.1 x.2.2.1 x.2.2.2 (flmW as bs aj x):=by delta flmW flmF;exact InWn.up (InWn.down (InWn.up (InWn.down W)))
  exact ⟨R.a0,R.a1,R.b0,R.b1⟩
noncomputable def mbS (i:Nat):Stmt:=(Za7 (mS 7)).getD i (.Pass ⟨0,0,0,0⟩)
noncomputable def Zc9 (x:Win):AV:=.tup [.int x.1,.int x.2.1,.int x.2.2.1,.int x.2.2.2]
noncomputable def Zfw:List String:=["alo", "ahi", "blo", "bhi", "i", "j", "k", "x"]
theorem sz8 {n:Nat} (h:n<=100000):n<=sizeLine:=by rw[sizeLine_eq];(exact Nat.le_trans ‹_› (by decide))
theorem Zey:∀ st:List Win,st.length<=wts st
 | []=>Nat.zero_le _
 | W0 :: st=>by
  have h1:=Zey st;have h2 : 1<=wt W0:=by unfold wt;(exact Nat.succ_pos _)
  rw[Zbx,List.length_cons];(exact F30 0x890670596508750 0x111 rfl h1 h2)
section
theorem Zof {L x dx qA mA aA bA:Addr}{as bs:List Int}{aj:Bool}{mb op:AV}{hb:Hp}{KK:QX} (G:Gnd (KW W0) B) (hh:A.handled=none) (hroom:A.depth + 4 < recursionLimit) (MM:MT hb L x dx (.ref aA) (.ref bA) bs aj mb op) (hno:∃ ma,Ins hb L x dx 242 ma/\ma (S "find_longest_match")=none)
  (la:Lst B hb L aA (as.map .int)) (lb:Lst B hb L bA (bs.map .int)) (hla:as.length<=4000) (hlb:bs.length<=4000) (hle:Hp.Le hb hp) (bq:hb qA=none) (bm:hb mA=none) (qL:qA≠L) (mL:mA≠L) (qm:qA≠mA)
  (h1:m (S "self")=some (.ref x)) (h2:m (S "queue")=some (.ref qA)) (h3:m (S "matching_blocks")=some (.ref mA)) (hq:hp qA=some (.list [Zc9 (0,as.length,0,bs.length)])) (hm:hp mA=some (.list []))
  (hK:∀ m' hp',(∀ y,y ∉ Zfw->m' (S y)=m (S y))->Hp.Le hb hp'->hp' mA=some (.list ((rawB (flmW as bs aj) as.length bs.length).map triV))->(rawB (flmW as bs aj) as.length bs.length).Nodup->KK .next m' hp') :
  EX (model PW W0) A (λ_ _=>False) B (callEnv fdMB L 203) (mbS 5) m hp KK:=by
 have W:=Zh0 as bs aj as.length bs.length;let Iq:Nat->Loc->Hp->Prop:=λn m₂ hp₂=>Hp.Le hb hp₂/\(∀ y,y ∉ Zfw->m₂ (S y)=m (S y))/\∃ st acc,n=wts st/\(∀ v ∈ st,Zed as.length bs.length v)/\hp₂ qA=some (.list (st.reverse.map Zc9))/\hp₂ mA=some (.list (acc.map triV))/\mbGo (flmW as bs aj) n st acc=rawB (flmW as bs aj) as.length bs.length/\Apart st acc/\acc.length + n<=9000;refine Zdq (Iq) (wt (0,(as.length:Int),0,(bs.length:Int))) ⟨hle,λ_ _=>rfl,[(0,(as.length:Int),0,(bs.length:Int))],[],by rfl,λv hv=>?_,hq,hm,rfl,⟨List.pairwise_singleton _ _,λ_ _ _ ht=>(by cases ht),List.nodup_nil⟩,by simp[wt];lia⟩ ?_
 .rw [List.mem_singleton]at hv;subst hv;refine ⟨?_,?_,?_,?_,?_,?_⟩ <;> dsimp only <;> (first | exact F00 0x4048 0x1 rfl | exact F10 0x73048 0x1 rfl | exact F10 0x73738 0x1 rfl)
 rintro n m₂ hp₂ ⟨x1,x2,st,acc,rfl,x3,x4,x5,x6,x7,x8⟩;have k1:m₂ (S "self")=some (.ref x):=by rw[x2 _ (by decide)];exact h1
 have k2:m₂ (S "queue")=some (.ref qA):=by rw[x2 _ (by decide)];exact h2
 have k3:m₂ (S "matching_blocks")=some (.ref mA):=by rw[x2 _ (by decide)];exact h3
 have hst:=Zey st;refine Za2 (Zaa k2 (Zf4 x4 qL (by rw[List.length_map,List.length_reverse];exact sz8 (by lia)) ?_));cases st with
 | nil=>
  refine Zbl (show (!(List.map Zc9 ([]:List Win).reverse).isEmpty)=false from rfl) ?_;have e:acc=rawB (flmW as bs aj) as.length bs.length:=by refine .trans ?_ x6;rfl
  rw[e]at x5 x7;exact hK _ _ x2 x1 x5 x7.nd
 | cons v st=>
  refine Zbq (show (!(List.map Zc9 (v :: st).reverse).isEmpty)=true from by simp) ?_;refine Zcb λKB hKB=>?_;have hv:=x3 v (.head _);rw[List.reverse_cons,List.map_append]at x4;refine Zac (Zbj (Zqd (Zaa k2 ⟨qA,st.reverse.map Zc9,Zc9 v,rfl,x4,qL,by rw[List.length_map,List.length_reverse];have:=Zey st;rw[Zbx]at x8;exact Nat.lt_of_le_of_lt (Nat.le_refl _) (Nat.lt_of_lt_of_le (by lia:st.length < 100000) (by rw[sizeLine_eq];decide)),?_⟩)));refine Zbh hh rfl rfl rfl (Zak (Zai (Zak (Zai (Zak (Zai (Zak (Zai (Zas ?_)))))))));have le1:Hp.Le hb (hp₂.set qA (.list (st.reverse.map Zc9))):=x1.set bq _;have q1:(hp₂.set qA (.list (st.reverse.map Zc9))) qA=some (.list (st.reverse.map Zc9)):=Hp.ss ..;have m1:(hp₂.set qA (.list (st.reverse.map Zc9))) mA=some (.list (acc.map triV)):=Hp.snt (Ne.symm qm) x5;clear x4 x5 x1;generalize hp₂.set qA (.list (st.reverse.map Zc9))=hp3 at le1 q1 m1 ⊢
  try dsimp only
  generalize hm1:upd (upd (upd (upd m₂ _ _) _ _) _ _) _ _=m3;have nm:∀ y,y ∉ Zfw->m3 (S y)=m (S y):=λy hy=>by subst hm1;exact updO hy (updO hy (updO hy (updO hy (x2 y hy))))
  have p1:m3 (S "alo")=some (.int v.1):=by subst hm1;(rfl)
  have p2:m3 (S "ahi")=some (.int v.2.1):=by subst hm1;(rfl)
  have p3:m3 (S "blo")=some (.int v.2.2.1):=by subst hm1;(rfl)
  have p4:m3 (S "bhi")=some (.int v.2.2.2):=by subst hm1;(rfl)
  have p5:m3 (S "self")=some (.ref x):=by rw[nm _ (by decide)];exact h1
  clear hm1 x2 k1 k2 k3;refine aa hno λma I hf=>?_;refine aD (id hv) λw1 w2 w3 w4 w5 w6=>?_;refine Zac (Zba (Zck G (clsS W0) (f:=196) (by kernel_rfl) (by kernel_rfl) (by kernel_rfl) (Zaa p5 ⟨x,dx,_,rfl,I.le le1,hf,Zab (Zaa p1 (Zab (Zaa p2 (Zab (Zaa p3 (Zab (Zaa p4 (Zae ?_))))))))⟩)));refine Ztw (as:=as) (bs:=bs) (aj:=aj) G hh (by (exact Nat.lt_of_succ_lt ‹_›)) (MM.le le1) (la.le le1) (lb.le le1) (by omega) (by lia) (by omega) (by lia) (by omega) (by omega) hla hlb ?_;have hF:flmF as bs (PJ bs aj) (λ_=>false) v.1 v.2.1 v.2.2.1 v.2.2.2=flmW as bs aj v:=rfl;rw[hF];have hgo:=x6;have hw1 : 1<=wt v:=by unfold wt;(exact Nat.succ_pos _)
  rw[show wts (v :: st)=(wts (v :: st) - 1) + 1 from by rw[Zbx];(exact F20 0x6709806865068701a 0x1010110110011010 rfl hw1),Ziw]at hgo;generalize hT:flmW as bs aj v=T at hgo ⊢;refine Zd6 G (by kernel_rfl) (by kernel_rfl) hh rfl rfl rfl (Zak (Zai (Zak (Zai (Zak (Zai (Zas ?_)))))));refine Zai ?_
  try dsimp only
  generalize hm4:upd (upd (upd (upd m3 _ _) _ _) _ _) _ _=m4;have nm4:∀ y,y ∉ Zfw->m4 (S y)=m (S y):=λy hy=>by subst hm4;exact updO hy (updO hy (updO hy (updO hy (nm y hy))))
  have r1:m4 (S "alo")=some (.int v.1):=by subst hm4;(assumption)
  have r2:m4 (S "ahi")=some (.int v.2.1):=by subst hm4;(assumption)
  have r3:m4 (S "blo")=some (.int v.2.2.1):=by subst hm4;(assumption)
  have r4:m4 (S "bhi")=some (.int v.2.2.2):=by subst hm4;(assumption)
  have r5:m4 (S "i")=some (.int T.1):=by subst hm4;(rfl)
  have r6:m4 (S "j")=some (.int T.2.1):=by subst hm4;(rfl)
  have r7:m4 (S "k")=some (.int T.2.2):=by subst hm4;(rfl)
  have r8:m4 (S "x")=some (triV T):=by subst hm4;(rfl)
  have r9:m4 (S "queue")=some (.ref qA):=by rw[nm4 _ (by decide)];exact h2
  have r10:m4 (S "matching_blocks")=some (.ref mA):=by rw[nm4 _ (by decide)];exact h3
  clear hm4 nm p1 p2 p3 p4 p5;have hw1 : 1<=wt v:=by unfold wt;assumption
  rw[Zbx]at x8;have hl0:=Zey st;refine Zac (Za5 (Za2 (Zaa r7 (Zf5 ?_))));by_cases hk:T.2.2=0
  .refine Zbl (show (T.2.2 != 0)=false from by simp[hk]) ?_;rw[if_pos hk]at hgo;refine Zaf (Zaf (hKB _ _ _ ⟨wts st,by rw[Zbx];(exact F20 0x870847650 0x11 rfl ‹_›),le1,nm4,st,acc,rfl,λy hy=>x3 y (.tail _ hy),q1,m1,?_,x7.tail,by lia⟩));refine .trans ?_ hgo;exact Zgw W _ _ _ (λy hy=>x3 y (.tail _ hy)) (Nat.le_refl _) _ (by rw[Zbx];(exact F20 0x795865068700a 0x1101 rfl ‹_›))
  .refine Zbq (show (T.2.2 != 0)=true from by simpa using hk) ?_;rw[if_neg hk]at hgo;have hk' : 0 < (flmW as bs aj v).2.2:=by have:=W.k0 v;rw[hT]at this ⊢;(exact F01 0x704770480047920 0x101011 rfl hk this)
   have hless:=Zik W hv hk';have hap:=x7.step W hv hk';have hin:∀ y ∈ Zbd v T ++ (Zbp v T ++ st),Zed as.length bs.length y:=λy hy=>by
    rw[<-hT]at hy;rcases List.mem_append.mp hy with hy | hy
    .exact (Zb7 W hv hk' y hy).1
    .rcases List.mem_append.mp hy with hy | hy
     .exact (Zch W hv hk' y hy).1
     .exact x3 y (.tail _ hy)
   rw[hT]at hless hap;have hwn:wts (Zbd v T ++ (Zbp v T ++ st)) < wts (v :: st):=by rw[wts_app,wts_app,Zbx];(exact F40 0xa90a80704987040 0x11 rfl hless)
   refine Zac (Za0 (Za9 (Zaa r10 ⟨mA,_,rfl,m1,mL,Zab (Zaa r8 (Zae ⟨_,_,rfl,m1,by rw[List.length_map];exact sz8 (by lia),?_⟩))⟩)));refine ⟨by nofun,by nofun,by nofun,?_⟩;have le2:Hp.Le hb (hp3.set mA (.list (acc.map triV ++ [triV T]))):=le1.set bm _;have q2:(hp3.set mA (.list (acc.map triV ++ [triV T]))) qA=some (.list (st.reverse.map Zc9)):=Hp.snt qm q1;have m2:(hp3.set mA (.list (acc.map triV ++ [triV T]))) mA=some (.list ((acc ++ [T]).map triV)):=by rw[Hp.ss];simp
   generalize hp3.set mA (.list (acc.map triV ++ [triV T]))=hp4 at le2 q2 m2 ⊢;clear le1 q1 m1;have stepL:∀ {KC:QX},(∀ hp5,Hp.Le hb hp5->hp5 qA=some (.list ((Zbp v T ++ st).reverse.map Zc9))->hp5 mA=some (.list ((acc ++ [T]).map triV))->KC .next m4 hp5)->EX (model PW W0) A (λ_ _=>False) B (callEnv fdMB L 203) ((kids ((kids (mbS 5)).getD 2 (.Pass ⟨0,0,0,0⟩))).getD 1 (.Pass ⟨0,0,0,0⟩)) m4 hp4 KC:=λ{KC} hC=>by
    refine Za5 (Zdc λKT hKT=>?_)
    have no:¬ (v.1 < T.1/\v.2.2.1 < T.2.1)->KT false hp4:=λhc=>hKT _ _ (by
     refine if_f ?_;refine Zaf (hC _ le2 ?_ m2)
     rw[show Zbp v T=[] from by unfold Zbp;exact (if_neg hc),List.nil_append];exact q2)
    refine Zaz (Zah (Zad (Zaa r1 (Zaa r5 (Zdo (Zaj ?_))))));by_cases c1:v.1 < T.1
    .refine Zbr c1 ?_;refine Zah (Zad (Zaa r3 (Zaa r6 (Zdo (Zaj ?_)))));by_cases c2:v.2.2.1 < T.2.1
     .refine Zbr c2 ?_;refine Zat (hKT _ _ ?_);refine if_t ?_;refine Zac (Za0 (Za9 (Zaa r9 ⟨qA,_,rfl,q2,qL,Zab (Zar (Zab (Zaa r1 (Zab (Zaa r5 (Zab (Zaa r3 (Zab (Zaa r6 (Zae ⟨sz rfl,Zae ⟨_,_,rfl,q2,by rw[List.length_map,List.length_reverse];exact sz8 (by lia),?_⟩⟩))))))))))⟩)));refine ⟨by nofun,by nofun,by nofun,Zaf (hC _ (le2.set bq _) ?_ (Hp.snt (Ne.symm qm) m2))⟩;rw[Hp.ss,show Zbp v T=[(v.1,T.1,v.2.2.1,T.2.1)] from by unfold Zbp;exact (if_pos ⟨c1,c2⟩)];simp[Zc9]
     .refine Zbs c2 ?_;exact no λh=>c2 h.2
    .refine Zbs c1 ?_;exact no λh=>c1 h.1
   refine Zac (stepL λhp5 le3 q3 m3'=>?_);have hl1:=(Zgg v T).1;have hll:(Zbp v T ++ st).length<=9000:=by have:=Zey (Zbp v T ++ st);rw[wts_app]at this;lia
   refine Zac (Za5 (Zdc λKT hKT=>?_));have fin:∀ hp6,Hp.Le hb hp6->hp6 qA=some (.list ((Zbd v T ++ (Zbp v T ++ st)).reverse.map Zc9))->hp6 mA=some (.list ((acc ++ [T]).map triV))->KB .next m4 hp6:=λhp6 le4 q4 m5=>by
    refine hKB _ _ _ ⟨_,hwn,le4,nm4,_,_,rfl,hin,q4,m5,?_,hap,?_⟩
    .refine .trans ?_ hgo;exact Zgw W _ _ _ hin (Nat.le_refl _) _ (by (exact F20 0x7859840680a 0x1101 rfl hwn))
    .refine List.length_append▸List.length_singleton▸?_;rw[Zbx]at hwn;lia
   have no:¬ (T.1 + T.2.2 < v.2.1/\T.2.1 + T.2.2 < v.2.2.2)->KT false hp5:=λhc=>hKT _ _ (by
    refine if_f ?_;refine Zaf (Zaf (Zaf (fin _ le3 ?_ m3')))
    rw[show Zbd v T=[] from by unfold Zbd;exact (if_neg hc),List.nil_append];exact q3)
   refine Zaz (Zah (Zad (Zag (Zaa r5 (Zaa r7 (Zav (Zaa r2 (Zdo (Zaj ?_)))))))));by_cases c1:T.1 + T.2.2 < v.2.1
   .refine Zbr c1 ?_;refine Zah (Zad (Zag (Zaa r6 (Zaa r7 (Zav (Zaa r4 (Zdo (Zaj ?_))))))));by_cases c2:T.2.1 + T.2.2 < v.2.2.2
    .refine Zbr c2 ?_;refine Zat (hKT _ _ ?_);refine if_t ?_;refine Zac (Za0 (Za9 (Zaa r9 ⟨qA,_,rfl,q3,qL,Zab (Zar (Zab (Zag (Zaa r5 (Zaa r7 (Zav (Zab (Zaa r2 (Zab (Zag (Zaa r6 (Zaa r7 (Zav (Zab (Zaa r4 (Zae ⟨sz rfl,Zae ⟨_,_,rfl,q3,by rw[List.length_map,List.length_reverse];exact sz8 (by (exact Nat.le_trans ‹_› (by decide))),?_⟩⟩))))))))))))))))⟩)));refine ⟨by nofun,by nofun,by nofun,Zaf (Zaf (Zaf (fin _ (le3.set bq _) ?_ (Hp.snt (Ne.symm qm) m3'))))⟩;rw[Hp.ss,show Zbd v T=[(T.1 + T.2.2,v.2.1,T.2.1 + T.2.2,v.2.2.2)] from by unfold Zbd;exact (if_pos ⟨c1,c2⟩)];simp[Zc9]
    .refine Zbs c2 ?_;exact no λh=>c2 h.2
   .refine Zbs c1 ?_;exact no λh=>c1 h.1
end
noncomputable def triT (x:Tri):AV:=.tup [.int x.1,.int x.2.1,.int x.2.2]
theorem Zim {bl:List Tri}{k:Nat}{b:Tri} (h:bl[k]?=some b):stM bl (k + 1)=stepM (stM bl k) b:=by have hk:k < bl.length:=(List.getElem?_eq_some_iff.mp h).1;unfold stM;rw[List.take_add_one,h,List.foldl_append];rfl
theorem Zks {bl:List Tri}:∀ k,(stM bl k).2.length<=k:=by
 intro r_
 induction r_ with
 | zero=>
  simp[stM]
 | succ k ih=>
  have ih:=ih;cases h:bl[k]? with
  | none=>
   have hk:bl.length<=k:=List.getElem?_eq_none_iff.mp h;have:stM bl (k + 1)=stM bl k:=by unfold stM;rw[List.take_of_length_le (by (exact F20 0x680758750 0x11 rfl hk)),List.take_of_length_le hk]
   rw[this];(exact F20 0x680758750 0x11 rfl ‹_›)
  | some b=>
   rw[Zim h];unfold stepM;split
   .dsimp only;lia
   .dsimp only;split
    .lia
    .rw [List.length_append];simp;omega
noncomputable def Zhu:List String:=["i1", "j1", "k1", "i2", "j2", "k2"]
section
theorem Zsk {L mA nA:Addr}{bl:List Tri}{hb:Hp}{KK:QX} (G:Gnd (KW W0) B) (hh:A.handled=none) (hlen:bl.length<=100) (hle:Hp.Le hb hp) (bm:hb mA=some (.list (bl.map triV))) (mL:mA≠L) (bn:hb nA=none) (nL:nA≠L)
  (h1:m (S "matching_blocks")=some (.ref mA)) (h2:m (S "non_adjacent")=some (.ref nA)) (h3:m (S "i1")=some (.int 0)) (h4:m (S "j1")=some (.int 0)) (h5:m (S "k1")=some (.int 0)) (hn:hp nA=some (.list []))
  (hK:∀ m' hp',(∀ y,y ∉ Zhu->m' (S y)=m (S y))->m' (S "i1")=some (.int (stM bl bl.length).1.1)->m' (S "j1")=some (.int (stM bl bl.length).1.2.1)->m' (S "k1")=some (.int (stM bl bl.length).1.2.2)->Hp.Le hb hp'->hp' nA=some (.list ((stM bl bl.length).2.map triT))->KK .next m' hp') :
  EX (model PW W0) A (λ_ _=>False) B (callEnv fdMB L 203) (mbS 9) m hp KK:=by
 refine Zd3 hh (Zaa h1 ⟨mA,_,rfl,.own (hle _ _ bm) mL,λit hit hitL=>?_⟩);have bi:hb it=none:=hle.none hit;have ni:nA≠it:=Hp.ne_of hn hit;let Iq:Nat->Loc->Hp->Prop:=λk m₂ hp₂=>Hp.Le hb hp₂/\(∀ y,y ∉ Zhu->m₂ (S y)=m (S y))/\m₂ (S "i1")=some (.int (stM bl k).1.1)/\m₂ (S "j1")=some (.int (stM bl k).1.2.1)/\m₂ (S "k1")=some (.int (stM bl k).1.2.2)/\hp₂ nA=some (.list ((stM bl k).2.map triT));refine ⟨Iq,λob=>?_,λk m₂ hp₂ ob x=>?_,λk m₂ hp₂ x=>.own (x.1 _ _ bm) mL,λk y m₂ hp₂ ob hy x hob=>?_,λm₂ hp₂ x=>?_⟩
 .exact ⟨hle.set bi _,λ_ _=>rfl,h3,h4,h5,Hp.snt ni hn⟩
 .exact ⟨x.1.set bi _,x.2.1,x.2.2.1,x.2.2.2.1,x.2.2.2.2.1,Hp.snt ni x.2.2.2.2.2⟩
 .refine hide λ_ Z=>?_;refine aD x λx1 x2 x3 x4 x5 x6=>?_;obtain ⟨b,hbk,rfl⟩:∃ b,bl[k]?=some b/\triV b=y:=by rw[List.getElem?_map]at hy;exact Option.map_eq_some_iff.mp hy
  apply Z;clear Z;have hkl:k < bl.length:=(List.getElem?_eq_some_iff.mp hbk).1;have hs:=Zim hbk;have hsl:=Zks (bl:=bl) k;generalize stM bl k=st at x3 x4 x5 x6 hs hsl;refine Zd6 G (by kernel_rfl) (by kernel_rfl) hh rfl rfl rfl (Zak (Zai (Zak (Zai (Zak (Zai (Zas ?_)))))));refine Zcb λKB hKB=>?_
  try dsimp only
  generalize hm1:upd (upd (upd m₂ _ _) _ _) _ _=m1;have p0:∀ y,y ∉ Zhu->m1 (S y)=m (S y):=λy hy=>by subst hm1;exact updO hy (updO hy (updO hy (x2 y hy)))
  have p1:m1 (S "i1")=some (.int st.1.1):=by subst hm1;(assumption)
  have p2:m1 (S "j1")=some (.int st.1.2.1):=by subst hm1;(assumption)
  have p3:m1 (S "k1")=some (.int st.1.2.2):=by subst hm1;(assumption)
  have p4:m1 (S "i2")=some (.int b.1):=by subst hm1;(rfl)
  have p5:m1 (S "j2")=some (.int b.2.1):=by subst hm1;(rfl)
  have p6:m1 (S "k2")=some (.int b.2.2):=by subst hm1;(rfl)
  have p7:m1 (S "non_adjacent")=some (.ref nA):=by rw[p0 _ (by decide)];exact h2
  clear hm1 x2 x3 x4 x5;refine Zac (Za5 (Zdc λKT hKT=>?_))
  have no:¬ (st.1.1 + st.1.2.2=b.1/\st.1.2.1 + st.1.2.2=b.2.1)->KT false hp₂:=λhc=>hKT _ _ (by
   refine if_f ?_;have hs':stM bl (k + 1)=(b,if st.1.2.2=0 then st.2 else st.2 ++ [st.1]):=by (rw[hs,stepM];exact (if_neg hc))
   have last:∀ hp3,Hp.Le hb hp3->hp3 it=some (.obj ob)->hp3 nA=some (.list ((stM bl (k + 1)).2.map triT))->EXs (model PW W0) A (λ_ _=>False) B (callEnv fdMB L 203) [(kidE ((kids (mbS 9)).getD 0 (.Pass ⟨0,0,0,0⟩))).getD 1 (.Pass ⟨0,0,0,0⟩)] m1 hp3 (SEQ (model PW W0) A (λ_ _=>False) B (callEnv fdMB L 203) [] KB):=λhp3 l3 l4 l5=>by
    refine Zac (Za1 hh (names:=[S "i1",S "j1",S "k1"]) (Zar (Zab (Zaa p4 (Zab (Zaa p5 (Zab (Zaa p6 (Zae ⟨sz rfl,_,rfl,rfl,Zap (Zap (Zap (Zas ?_)))⟩)))))))));refine Zaf (Zaf (hKB _ _ _ ⟨⟨l3,λy hy=>?_,?_,?_,?_,l5⟩,l4⟩))
    .exact updO hy (updO hy (updO hy (p0 y hy)))
    .rw [hs'];(rfl)
    .rw [hs'];(rfl)
    .rw [hs'];(rfl)
   refine Zac (Za5 (Za2 (Zaa p3 (Zf5 ?_))));by_cases hz:st.1.2.2=0
   .refine Zbl (show (st.1.2.2 != 0)=false from by simp[hz]) ?_;refine Zaf (last _ x1 hob ?_);rw[hs',if_pos hz];exact x6
   .refine Zbq (show (st.1.2.2 != 0)=true from by simpa using hz) ?_;refine Zac (Za0 (Za9 (Zaa p7 ⟨nA,_,rfl,x6,nL,Zab (Zar (Zab (Zaa p1 (Zab (Zaa p2 (Zab (Zaa p3 (Zae ⟨sz rfl,Zae ⟨_,_,rfl,x6,by rw[List.length_map];exact sz' (by lia),?_⟩⟩))))))))⟩)));refine ⟨by nofun,by nofun,by nofun,Zaf (last _ (x1.set bn _) (Hp.snt (Ne.symm ni) hob) ?_)⟩
    rw[Hp.ss,hs',if_neg hz];simp[triT])
  refine Zaz (Zah (Zad (Zag (Zaa p1 (Zaa p3 (Zav (Zaa p4 (Zd2 (Zaj ?_)))))))));by_cases c1:st.1.1 + st.1.2.2=b.1
  .refine Zbq (show (st.1.1 + st.1.2.2 == b.1)=true from by simpa using c1) ?_;refine Zah (Zad (Zag (Zaa p2 (Zaa p3 (Zav (Zaa p5 (Zd2 (Zaj ?_))))))));by_cases c2:st.1.2.1 + st.1.2.2=b.2.1
   .refine Zbq (show (st.1.2.1 + st.1.2.2 == b.2.1)=true from by simpa using c2) ?_;refine Zat (hKT _ _ ?_);refine if_t ?_;have hs':stM bl (k + 1)=((st.1.1,st.1.2.1,st.1.2.2 + b.2.2),st.2):=by (rw[hs,stepM];exact (if_pos ⟨c1,c2⟩))
    refine Zac (Zeb p3 (Zaa p6 (Zms ?_)));refine Zaf (Zaf (hKB _ _ _ ⟨⟨x1,λy hy=>?_,?_,?_,?_,?_⟩,hob⟩))
    .rw [ug,if_neg (λe=>hy (by rw[e];decide))];exact p0 y hy
    .rw [hs'];(assumption)
    .rw [hs'];(assumption)
    .rw [hs'];(rfl)
    .rw [hs'];exact x6
   .refine Zbl (show (st.1.2.1 + st.1.2.2 == b.2.1)=false from by simpa using c2) ?_;exact no λh=>c2 h.2
  .refine Zbl (show (st.1.1 + st.1.2.2 == b.1)=false from by simpa using c1) ?_;exact no λh=>c1 h.1
 .refine hide λ_ Z=>?_;refine aD x λx1 x2 x3 x4 x5 x6=>?_;apply Z;clear Z;rw[List.length_map]at x3 x4 x5 x6;exact hK _ _ x2 x3 x4 x5 (x1.del bi) (by rw[Hp.del_ne _ ni];exact x6)
end
section
theorem Zrz {t:Tri}{Q:QV} (G:Gnd (KW W0) B) (hroom:A.depth < recursionLimit) (h:Q (triV t) hp):CD (model PW W0) A E B env (.ref 89) m [.ref 135,triT t] hp Q:=by
 refine Zdd (bs:=[(S "iterable",triT t),(S "cls",.ref 135)]) (body:=Za7 (inS (topS PW 3) 5)) G (Zs3 W0) (by kernel_rfl) rfl hroom (λs vs hv _=>?_) (by kernel_rfl) (by decide) (λL hL hLe=>?_)
 .refine ad (Zbg hv) λv u V h1 h2=>?_;subst V;exact ⟨[(S "cls",v),(S "iterable",u)],BindsTo.of_eq rfl,rfl,.mk h2 (.mk h1 .nil)⟩
 .have g0:Zaq [(S "iterable",triT t),(S "cls",.ref 135)] (S "cls")=some (.ref 135):=rfl;have g1:Zaq [(S "iterable",triT t),(S "cls",.ref 135)] (S "iterable")=some (triT t):=rfl;generalize hm0:Zaq [(S "iterable",triT t),(S "cls",.ref 135)]=m0 at *;refine Zac (Zcj ?_);refine Zac (Zan (Zm0 G (matK W0) (Zax G (Zis W0) Zhc (by decide) (λ_=>Zeg) ⟨rfl,Zab (Zaa g0 (Zab (Zaa g1 (Zae (Zm5 G (matK W0) (sz rfl) ?_)))))⟩)));refine Zac (Za5 (Zad (Zau (Zax G (Zct W0) Zb9 (by decide) (λ_=>Zb2) ⟨rfl,Zab (Zaa (v:=triV t) (by rfl) (Zae (Zrw G (by kernel_rfl) (by kernel_rfl) (sz rfl) (Zal (Zrk (Zaj ?_))))))⟩))));refine Zbl (show (((([AV.int t.1,.int t.2.1,.int t.2.2]:List AV).length:Nat):Int) != 3)=false from rfl) ?_;refine Zaf (Zac (Zbo (Zaa (v:=triV t) (by rfl) ?_)));exact Zc3 hL h
theorem Zqv {L nA:Addr}{res:List Tri}{Q:QV} (G:Gnd (KW W0) B) (hh:A.handled=none) (hroom:A.depth < recursionLimit) (u8:m (S "non_adjacent")=some (.ref nA)) (hn6:hp nA=some (.list (res.map triT))) (hnL:nA≠L) (hml:res.length<=200)
  (hK:∀ Sx hp8,Hp.Le hp hp8->hp8 Sx=some (.list (res.map triV))->hp Sx=none->Sx≠L->Q (.ref Sx) hp8) :
  EV (model PW W0) A E B (callEnv fdMB L 203) (kidT (mbS 12)) m hp Q:=by
 refine Zke hh (Zax G (Zfr W0) Zeo (by decide) (λ_=>Zeg) ⟨rfl,Zax G (Zse W0) Zrf (by decide) (λ_=>Zeg) ⟨rfl,Zab (Zrs (mc:=.type "type") (p:=91) (f:=.ref 89) (rest:=[.bool false]) G (by kernel_rfl) (by kernel_rfl) (by kernel_rfl) (Zd4 G (Zlv W0) (λ_=>VR_ref) ⟨rfl,λfq hfq hfL=>Zab (Zaa u8 (Zae ⟨fq,nA,res.map triT,rfl,.own (Hp.snt (Hp.ne_of hn6 hfq) hn6) hnL,by rw[List.length_map];(exact Nat.le_trans ‹_› (by decide)),λSx mo it t hSL hSm hSi hmi hS0 hm0' hi0=>?_⟩))⟩))⟩⟩);have le7:Hp.Le hp (hp.set fq (.obj (methodObj (.ref 89) (.ref 135)))):=(Hp.Le.refl _).set hfq _;have hq7:(hp.set fq (.obj (methodObj (.ref 89) (.ref 135)))) fq=some (.obj (methodObj (.ref 89) (.ref 135))):=Hp.ss ..;have hn7:=le7 _ _ hn6;generalize hp.set fq (.obj (methodObj (.ref 89) (.ref 135)))=hp7 at le7 hq7 hn7 hS0 hm0' hi0 ⊢;refine ⟨λi acc hp'=>acc=(res.take i).map triV/\(∀ z o,hp7 z=some o->hp' z=some o)/\hp' mo=some (.obj (Zbz t (.ref fq))),⟨rfl,λz o e=>?_,?_⟩,λi acc hp' z o hz y=>⟨y.1,λz' o' e=>?_,?_⟩,λi acc hp' y=>.own (y.2.1 _ _ hn7) hnL,λi acc hp' y=>y.2.2,λA' hA1 hA2 hA3 i v acc hp' hv y=>?_,λacc hp' y hS=>?_⟩
 .exact Hp.snt (Hp.ne_of e hS0) (Hp.snt (Hp.ne_of e hm0') (Hp.snt (Hp.ne_of e hi0) e))
 .exact Hp.snt (Ne.symm hSm) (Hp.ss ..)
 .rcases hz with rfl | rfl
  .exact Hp.snt (Hp.ne_of e hS0) (y.2.1 _ _ e)
  .exact Hp.snt (Hp.ne_of e hi0) (y.2.1 _ _ e)
 .rcases hz with rfl | rfl
  .exact Hp.snt (Ne.symm hSm) y.2.2
  .exact Hp.snt hmi y.2.2
 .obtain ⟨b,hbk,rfl⟩:∃ b,res[i]?=some b/\triT b=v:=by rw[List.getElem?_map]at hv;exact Option.map_eq_some_iff.mp hv
  refine Zna (sv:=.ref 135) (y.2.1 _ _ hq7) hfL (λ_=>VR_ref) (Zrz G (by rw[hA2];exact hroom) ⟨λ_ _=>rfl,?_,y.2⟩);refine List.take_add_one▸hbk▸List.map_append▸y.1▸?_;rfl
 .refine au y λy1 y2 y3=>?_;rw[List.length_map,List.take_length]at y1;refine hK Sx _ (λz o e=>?_) (by rw[Hp.del_ne _ hSi,hS,y1]) ?_ hSL
  .have e7:=le7 _ _ e;rw[Hp.del_ne _ (Hp.ne_of e7 hi0)];exact y2 _ _ e7
  .cases e:hp Sx with
   | none=>rfl
   | some o=>exact absurd (le7 _ _ e) (by rw[hS0];nofun)
theorem Ztu {x dx aA bA:Addr}{as bs:List Int}{aj:Bool}{op:AV}{Q:QV} (G:Gnd (KW W0) B) (hh:A.handled=none) (hu:A.units + 10 < cLine) (hroom:A.depth + 5 < recursionLimit) {hq:Hp} (hle:Hp.Le hq hp) (MM:MT hq env.locals x dx (.ref aA) (.ref bA) bs aj .none op)
  (la:Lst B hp env.locals aA (as.map .int)) (lb:Lst B hp env.locals bA (bs.map .int)) (hla:as.length<=4000) (hlb:bs.length<=4000) (hraw:(rawB (flmW as bs aj) as.length bs.length).length < 64)
  (h:∀ hp' hq' r,hp r=none->r≠env.locals->hp' r=some (.list ((mbF (flmW as bs aj) as.length bs.length).map triV))->MT hq' env.locals x dx (.ref aA) (.ref bA) bs aj (.ref r) op->Hp.Le hq' hp'->(∀ z,hq z=none->hq' z=none)->(∀ z o,z≠dx->z≠env.locals->hp z=some o->hp' z=some o)->hp' env.locals=none->Q (.ref r) hp') :
  CL (model PW W0) A E B env (.ref 203) m [.ref x] hp Q:=by
 refine CD.cl (Zdd (bs:=[(S "self",.ref x)]) (body:=Za7 (mS 7)) G (kMB W0) (by kernel_rfl) rfl (by (exact ul0 ‹_›)) (λs vs hv _=>?_) (by kernel_rfl) (by decide) (λL hL hLe=>?_))
 .refine hide λ_ Z=>?_;obtain ⟨v,rfl,h1⟩:=Zbn hv;apply Z;clear Z;exact ⟨[(S "self",v)],BindsTo.of_eq rfl,rfl,VRs.one h1⟩
 .have Mq:=MM.call (m:=m) (hle.none hL);have hqb:Hp.Le (hq.set env.locals (.ns m)) (hp.set env.locals (.ns m)):=λz o e=>by
   by_cases hz:z=env.locals
   .subst hz;rw[Hp.ss]at e ⊢;exact e
   .rw [Hp.sn _ _ hz]at e ⊢;exact hle _ _ e
  have M':=Mq.le hqb;have hq1:∀ z,z≠env.locals->(hq.set env.locals (.ns m)) z=hq z:=λz hz=>by exact (Hp.sn _ _ hz)
  have hq2:(hq.set env.locals (.ns m)) env.locals=some (.ns m):=Hp.ss ..;generalize hq.set env.locals (.ns m)=hqs at Mq hqb hq1 hq2;refine hide λ_ Z=>?_;have la':=la.call (m:=m) hL;have lb':=lb.call (m:=m) hL;have hcl:(hp.set env.locals (.ns m)) env.locals=some (.ns m):=Hp.ss ..;have hLc:(hp.set env.locals (.ns m)) L=none:=Hp.snt hLe hL;have hback:∀ z o,z≠env.locals->hp z=some o->(hp.set env.locals (.ns m)) z=some o:=λz o hz e=>Hp.snt hz e;have hbn:∀ z,(hp.set env.locals (.ns m)) z=none->hp z=none/\z≠env.locals:=λz hz=>by
   have:z≠env.locals:=λe=>by rw[e,Hp.ss]at hz;cases hz
   exact ⟨Hp.snr this hz,this⟩
  have g0:Zaq [(S "self",AV.ref x)] (S "self")=some (.ref x):=rfl;generalize hm0:Zaq [(S "self",AV.ref x)]=m0 at *;generalize hp.set env.locals (.ns m)=hb at *;obtain ⟨ma,I,hmb,hop,hno,hma,hmbb,_,_⟩:=M'.keep;apply Z;clear Z;refine Zac (Zcj ?_);refine Zac (Za5 (Zad (Zbc G g0 I hmb (Zcc (Zcz (Zaj ?_))))));refine Zbl (show (!AV.isNone .none)=false from rfl) ?_;refine Zaf (Zac (Za1 hh (names:=[S "la",S "lb"]) (Zar (Zab (Zau (Zax G (Zct W0) Zb9 (by decide) (λ_=>Zb2) ⟨rfl,Zab (Zbc G g0 I hma (Zae (Zec la' (by rw[List.length_map];exact sz' (by (exact Nat.le_trans ‹_› (by decide)))) ?_)))⟩))))));refine Zab (Zau (Zax G (Zct W0) Zb9 (by decide) (λ_=>Zb2) ⟨rfl,Zab (Zbc G g0 I hmbb (Zae (Zec lb' (by rw[List.length_map];exact sz' (by (exact Nat.le_trans ‹_› (by decide)))) (Zae ⟨sz rfl,_,rfl,rfl,Zap (Zap (Zas ?_))⟩))))⟩));rw[List.length_map,List.length_map];refine Zac (Zan (Za4 (Zab (Zar (Zab (Zal (Zab (Zaa (v:=.int as.length) (by rfl) (Zab (Zal (Zab (Zaa (v:=.int bs.length) (by rfl) (Zae ⟨sz rfl,Zae ⟨sz rfl,λqA hqA hqL=>?_⟩⟩)))))))))))));refine Zac (Zan (Za4 (Zae ⟨Nat.zero_le _,λmA hmA hmL=>?_⟩)));have hqm:qA≠mA:=Hp.ne_of (Hp.ss ..) hmA;have bmA:hb mA=none:=((Hp.Le.refl hb).set hqA _).none hmA
  try dsimp only
  generalize hm1:upd (upd (upd (upd m0 _ _) _ _) _ _) _ _=m1;have p1:m1 (S "self")=some (.ref x):=by subst hm1;(assumption)
  have p2:m1 (S "queue")=some (.ref qA):=by subst hm1;(rfl)
  have p3:m1 (S "matching_blocks")=some (.ref mA):=by subst hm1;(rfl)
  have p4:m1 (S "la")=some (.int as.length):=by subst hm1;(rfl)
  have p5:m1 (S "lb")=some (.int bs.length):=by subst hm1;(rfl)
  clear hm1 g0;refine Zac ?_;refine Zof (A:=A.deeper (callEnv fdMB L 203)) (hb:=hb) (as:=as) (bs:=bs) G hh (by show A.depth + 1 + 4 < _;omega) M' ⟨ma,I,hno "find_longest_match" (by decide)⟩ la' lb' hla hlb (((Hp.Le.refl hb).set hqA _).set bmA _) hqA bmA hqL hmL hqm p1 p2 p3 (by rw[Hp.sn _ _ hqm,Hp.ss];rfl) (Hp.ss ..) λm2 hp2 q1 q2 q3 q4=>?_;have p1':m2 (S "self")=some (.ref x):=by rw[q1 _ (by decide)];exact p1
  have p3':m2 (S "matching_blocks")=some (.ref mA):=by rw[q1 _ (by decide)];exact p3
  have p4':m2 (S "la")=some (.int as.length):=by rw[q1 _ (by decide)];exact p4
  have p5':m2 (S "lb")=some (.int bs.length):=by rw[q1 _ (by decide)];exact p5
  clear q1 p1 p2 p3 p4 p5;refine Zac (Za0 (Zpg G (by kernel_rfl) (by kernel_rfl) (by show A.units + 3 + 4 < _;(exact F20 0x8443470048a47040 0x11 rfl hu)) (Zaa p3' ⟨mA,_,rfl,q3,hmL,q4,hraw,λys hperm hup=>⟨by nofun,by nofun,by nofun,?_⟩⟩)));have hys:=Znr q4 hperm hup;have hyl:ys.length<=100:=by rw[hperm.length_eq];(exact F10 0x64575405740 0x11 rfl hraw)
  have le3:Hp.Le hb (hp2.set mA (.list (ys.map triV))):=q2.set bmA _;refine Zac (Zkd (Zal (Zai (Zai (Zai ?_)))));refine Zac (Zan (Za4 (Zae ⟨Nat.zero_le _,λnA hnA hnL=>?_⟩)));have hmn:mA≠nA:=Hp.ne_of (Hp.ss ..) hnA;have bnA:hb nA=none:=le3.none hnA
  try dsimp only
  generalize hm3:upd (upd (upd (upd m2 _ _) _ _) _ _) _ _=m3;have s1:m3 (S "self")=some (.ref x):=by subst hm3;(assumption)
  have s2:m3 (S "matching_blocks")=some (.ref mA):=by subst hm3;(assumption)
  have s3:m3 (S "la")=some (.int as.length):=by subst hm3;(assumption)
  have s4:m3 (S "lb")=some (.int bs.length):=by subst hm3;(assumption)
  have s5:m3 (S "i1")=some (.int 0):=by subst hm3;(rfl)
  have s6:m3 (S "j1")=some (.int 0):=by subst hm3;(assumption)
  have s7:m3 (S "k1")=some (.int 0):=by subst hm3;(assumption)
  have s8:m3 (S "non_adjacent")=some (.ref nA):=by subst hm3;(rfl)
  clear hm3 p1' p3' p4' p5';refine Zac ?_;refine Zsk (A:=A.deeper (callEnv fdMB L 203)) (hb:=hb.set mA (.list (ys.map triV))) (bl:=ys) G hh hyl (λz o e=>?_) (Hp.ss ..) hmL (Hp.snt (Ne.symm hmn) bnA) hnL s2 s8 s5 s6 s7 (Hp.ss ..) λm4 hp4 t1 t2 t3 t4 t5 t6=>?_
  .by_cases hz:z=mA
   .subst hz;rw[Hp.ss]at e;rw[Hp.sn _ _ hmn,Hp.ss];exact e
   .rw [Hp.sn _ _ hz]at e;exact Hp.snt (Hp.ne_of e bnA) (le3 _ _ e)
  have le4:Hp.Le hb hp4:=((Hp.Le.refl hb).set bmA _).trans t5;have u1:m4 (S "self")=some (.ref x):=by rw[t1 _ (by decide)];exact s1
  have u3:m4 (S "la")=some (.int as.length):=by rw[t1 _ (by decide)];exact s3
  have u4:m4 (S "lb")=some (.int bs.length):=by rw[t1 _ (by decide)];exact s4
  have u8:m4 (S "non_adjacent")=some (.ref nA):=by rw[t1 _ (by decide)];exact s8
  clear t1 s1 s2 s3 s4 s5 s6 s7 s8 t5;have hsl:=Zks (bl:=ys) ys.length;have rest:∀ hp5 (ns:List Tri),ns.length<=101->ns ++ [((as.length:Int),(bs.length:Int),0)]=mbF (flmW as bs aj) as.length bs.length->Hp.Le hb hp5->hp5 nA=some (.list (ns.map triT))->EXs (model PW W0) (A.deeper (callEnv fdMB L 203)) (λ_ _=>False) B (callEnv fdMB L 203) [mbS 11,mbS 12,mbS 13] m4 hp5 (RET L env m Q):=λhp5 ns hns hres le5 hn5=>by
   refine Zac ?_;refine Za0 (Za9 (Zaa u8 ⟨nA,_,rfl,hn5,hnL,Zab (Zar (Zab (Zaa u3 (Zab (Zaa u4 (Zab (Zal (Zae ⟨sz rfl,Zae ⟨_,_,rfl,hn5,by rw[List.length_map];exact sz' (by (exact Nat.le_trans ‹_› (by decide))),?_⟩⟩))))))))⟩));refine ⟨by nofun,by nofun,by nofun,?_⟩;have le6:Hp.Le hb (hp5.set nA (.list (ns.map triT ++ [triT ((as.length:Int),(bs.length:Int),0)]))):=le5.set bnA _;have hn6:(hp5.set nA (.list (ns.map triT ++ [triT ((as.length:Int),(bs.length:Int),0)]))) nA=some (.list ((mbF (flmW as bs aj) as.length bs.length).map triT)):=by rw[Hp.ss,<-hres];simp
   have hml:(mbF (flmW as bs aj) as.length bs.length).length<=200:=by refine hres▸?_;simp;(exact Nat.le_trans ‹_› (by decide))
   change EXs _ _ _ _ _ _ _ (hp5.set nA (.list (ns.map triT ++ [triT ((as.length:Int),(bs.length:Int),0)]))) _;generalize hp5.set nA (.list (ns.map triT ++ [triT ((as.length:Int),(bs.length:Int),0)]))=hp6 at le6 hn6 ⊢;clear hn5 le5 hres hns;generalize mbF (flmW as bs aj) as.length bs.length=res at *;refine Zac ?_;refine Zb4 (Zqv G hh (by show A.depth + 1 < _;(exact ul ‹_› (by decide))) u8 hn6 hnL hml λSx hp8 le7 hS8 hS0 hSL=>?_);have le8:=le6.trans le7;have bS:hb Sx=none:=by
    cases e:hb Sx with
    | none=>rfl
    | some o=>exact absurd (le6 _ _ e) (by rw[hS0];nofun)
   obtain ⟨ma8,Iq,_,_,_,_,_,k8,_⟩:=Mq.keep;have I8:=Iq.le (hqb.trans le8);have hSd:Sx≠dx:=λe=>by replace hS8:=I8.at_▸e▸hS8;cases hS8
   have Mk:=k8 (.ref Sx);have lek:Hp.Le (hqs.set dx (.atr (upd ma8 (S "matching_blocks") (.ref Sx)))) (hp8.set dx (.atr (upd ma8 (S "matching_blocks") (.ref Sx)))):=λz o e=>by
    by_cases hz:z=dx
    .subst hz;rw[Hp.ss]at e ⊢;exact e
    .rw [Hp.sn _ _ hz]at e ⊢;exact le8 _ _ (hqb _ _ e)
   have M9:=Mk.le lek;obtain ⟨ma9,I9,hmb9,_⟩:=M9.keep;refine Za6 G u1 I8 ?_;refine Zac ?_;refine Zbo (Zbc G u1 I9 hmb9 ?_);have dE:dx≠env.locals:=MM.xL.2.1;have hl9:(hp8.set dx (.atr (upd ma8 (S "matching_blocks") (.ref Sx)))) env.locals=some (.ns m):=Hp.snt (Ne.symm dE) (le8 _ _ hcl);obtain ⟨r1,r2⟩:=hbn Sx bS;refine Zcs hl9 (h _ ((hqs.set dx (.atr (upd ma8 (S "matching_blocks") (.ref Sx)))).cut env.locals L) Sx r1 r2 ?_ (Mk.move λz o e hns hz=>?_) (λz o e=>?_) (λz hz=>?_) (λz o hz hzE e=>?_) (by simp[Hp.cut]))
   .rw [Hp.cut_eq r2 (show Sx≠L from hSL),Hp.sn _ _ hSd];exact hS8
   .have hzE:z≠env.locals:=λh=>by rw[h,Hp.sn _ _ (Ne.symm dE),hq2]at e;cases e;exact hns _ rfl
    exact ⟨by rw[Hp.cut_eq hzE hz];exact e,hzE⟩
   .by_cases hz:z=env.locals\/z=L
    .simp [Hp.cut,hz]at e
    .rw [not_or]at hz;rw[Hp.cut_eq hz.1 hz.2]at e ⊢;exact lek _ _ e
   .by_cases hz2:z=env.locals\/z=L
    .exact if_pos hz2
    .rw [not_or]at hz2;have hzd:z≠dx:=λh=>by obtain ⟨_,Iz,_⟩:=MM.keep;rw[h,Iz.at_]at hz;cases hz
     rw[Hp.cut_eq hz2.1 hz2.2,Hp.sn _ _ hzd,hq1 _ hz2.1];exact hz
   .have hz1:=hback z o hzE e;rw[Hp.cut_eq hzE (Hp.ne_of hz1 hLc),Hp.sn _ _ hz];exact le8 _ _ hz1
  have hkres:(if (stM ys ys.length).1.2.2=0 then (stM ys ys.length).2 else (stM ys ys.length).2 ++ [(stM ys ys.length).1]) ++ [((as.length:Int),(bs.length:Int),0)]=mbF (flmW as bs aj) as.length bs.length:=by unfold mbF;refine hys▸?_;rfl
  refine Zac (Za5 (Za2 (Zaa t4 (Zf5 ?_))));by_cases hz:(stM ys ys.length).1.2.2=0
  .refine Zbl (show ((stM ys ys.length).1.2.2 != 0)=false from by simp[hz]) ?_;rw[if_pos hz]at hkres;exact Zaf (rest _ _ (by (exact F20 0x655857850645750 0x111 rfl hyl hsl)) hkres le4 t6)
  .refine Zbq (show ((stM ys ys.length).1.2.2 != 0)=true from by simpa using hz) ?_;rw[if_neg hz]at hkres;refine Zac (Za0 (Za9 (Zaa u8 ⟨nA,_,rfl,t6,hnL,Zab (Zar (Zab (Zaa t2 (Zab (Zaa t3 (Zab (Zaa t4 (Zae ⟨sz rfl,Zae ⟨_,_,rfl,t6,by rw[List.length_map];exact sz' (by lia),?_⟩⟩))))))))⟩)));refine ⟨by nofun,by nofun,by nofun,Zaf (rest _ _ (by simp;(exact Nat.le_trans ‹_› ‹_›)) hkres (le4.set bnA _) ?_)⟩;rw[Hp.ss];simp[triT]
end
noncomputable abbrev Op:=String × Int × Int × Int × Int
noncomputable def Zcm (i ai j bj:Int):String:=if i < ai then (if j < bj then "replace" else "delete") else if j < bj then "insert" else ""
noncomputable abbrev CSt:=Int × Int × List Op
noncomputable def stepC (st:CSt) (b:Tri):CSt:=
 (b.1 + b.2.2,b.2.1 + b.2.2,st.2.2 ++ ((if Zcm st.1 b.1 st.2.1 b.2.1 = "" then [] else [(Zcm st.1 b.1 st.2.1 b.2.1,st.1,b.1,st.2.1,b.2.1)]) ++ (if b.2.2=0 then [] else [("equal",b.1,b.1 + b.2.2,b.2.1,b.2.1 + b.2.2)])))
noncomputable def stC (bl:List Tri) (k:Nat):CSt:=(bl.take k).foldl stepC (0,0,[])
theorem Zcv {α β:Type}{f : β->α->β}{l:List α}{k:Nat}{x : α}{z : β} (h:l[k]?=some x):(l.take (k + 1)).foldl f z=f ((l.take k).foldl f z) x:=by rw[List.take_add_one,h,List.foldl_append];rfl
theorem Zio {bl:List Tri}{k:Nat}{b:Tri} (h:bl[k]?=some b):stC bl (k + 1)=stepC (stC bl k) b:=Zcv h
theorem Zkt {bl:List Tri}:∀ k,(stC bl k).2.2.length<=2 * k:=by
 intro r_
 induction r_ with
 | zero=>
  simp[stC]
 | succ k ih=>
  have ih:=ih;cases h:bl[k]? with
  | none=>
   have hk:bl.length<=k:=List.getElem?_eq_none_iff.mp h;have:stC bl (k + 1)=stC bl k:=by unfold stC;rw[List.take_of_length_le (by (exact F20 0x680758750 0x11 rfl hk)),List.take_of_length_le hk]
   refine this▸?_;(exact F20 0x6802275822750 0x11 rfl ‹_›)
  | some b=>
   rw[Zio h];simp only[stepC,List.length_append];split <;> split <;> simp <;> (first | exact F20 0x6802275822750 0x11 rfl ‹_› | exact F20 0x680226705822750 0x11 rfl ‹_› | exact F20 0x6802224705822750 0x11 rfl ‹_›)
noncomputable def Zn5 (bl:List Tri):List Op:=(bl.foldl stepC (0,0,[])).2.2
theorem Zir (bl:List Tri):Zn5 bl=(stC bl bl.length).2.2:=by delta Zn5 stC;rw[List.take_length]
theorem Zky (bl:List Tri):(Zn5 bl).length<=2 * bl.length:=by rw[Zir];exact Zkt _
noncomputable def oAV (o:Op):AV:=.tup [.str (S o.1),.int o.2.1,.int o.2.2.1,.int o.2.2.2.1,.int o.2.2.2.2]
noncomputable def IC (hb:Hp) (aA:Addr) (bl:List Tri) (k:Nat) (m:Loc) (hp:Hp):Prop:=
 m (S "answer")=some (.ref aA)/\m (S "i")=some (.int (stC bl k).1)/\m (S "j")=some (.int (stC bl k).2.1)/\hp aA=some (.list ((stC bl k).2.2.map oAV))/\Hp.Le hb hp
noncomputable def codS (i:Nat):Stmt:=(Za7 (mS 8)).getD i (.Pass ⟨0,0,0,0⟩)
section
theorem Zjq {L it aA:Addr}{hb hp:Hp}{m:Loc}{bl:List Tri}{k:Nat}{b:Tri}{ob:Obj}{KK:QX} (G:Gnd (KW W0) B) (hh:A.handled=none) (hlen:bl.length<=200) (hk:bl[k]?=some b) (I:IC hb aA bl k m hp) (hba:hb aA=none) (haL:aA≠L) (hai:aA≠it) (hit:hp it=some (.obj ob))
  (hK:∀ m' hp',IC hb aA bl (k + 1) m' hp'->hp' it=some (.obj ob)->KK .next m' hp') :
  ASG (model PW W0) A (λ_ _=>False) B (callEnv Zdx L 210) (kidT (codS 4)) (triV b) m hp λm' hp'=>EXs (model PW W0) A (λ_ _=>False) B (callEnv Zdx L 210) (kids (codS 4)) m' hp' KK:=by
 refine hide λ_ Z=>?_;refine aZ I λh1 h2 h3 h4 h5=>?_;apply Z;clear Z;have hst:=Zio hk;have hlc:=Zkt (bl:=bl) k;have hkl:k < bl.length:=(List.getElem?_eq_some_iff.mp hk).1;refine Zd6 G (by kernel_rfl) (by kernel_rfl) hh rfl rfl rfl (Zak (Zai (Zak (Zai (Zak (Zai (Zas ?_)))))));generalize stC bl k=st at *
 try dsimp only
 generalize hm1:upd (upd (upd m _ _) _ _) _ _=m1;have g1:m1 (S "answer")=some (.ref aA):=by subst hm1;(assumption)
 have g2:m1 (S "i")=some (.int st.1):=by subst hm1;(assumption)
 have g3:m1 (S "j")=some (.int st.2.1):=by subst hm1;(assumption)
 have g4:m1 (S "ai")=some (.int b.1):=by subst hm1;(rfl)
 have g5:m1 (S "bj")=some (.int b.2.1):=by subst hm1;(rfl)
 have g6:m1 (S "size")=some (.int b.2.2):=by subst hm1;(rfl)
 clear hm1 h1 h2 h3;refine Zac (Zan (Zbw ?_))
 try dsimp only
 generalize hm2:upd m1 _ _=m2;have f1:m2 (S "answer")=some (.ref aA):=by subst hm2;(assumption)
 have f2:m2 (S "i")=some (.int st.1):=by subst hm2;(assumption)
 have f3:m2 (S "j")=some (.int st.2.1):=by subst hm2;(assumption)
 have f4:m2 (S "ai")=some (.int b.1):=by subst hm2;(assumption)
 have f5:m2 (S "bj")=some (.int b.2.1):=by subst hm2;(assumption)
 have f6:m2 (S "size")=some (.int b.2.2):=by subst hm2;(assumption)
 have f7:m2 (S "tag")=some (.str (S "")):=by subst hm2;(rfl)
 clear hm2 g1 g2 g3 g4 g5 g6;refine Zmz (λm' hp'=>hp'=hp/\(∀ y,y ≠ "tag" -> m' (S y)=m2 (S y))/\m' (S "tag")=some (.str (S (Zcm st.1 b.1 st.2.1 b.2.1)))) ?_ ?_
 .refine Zts λKT hKT=>?_;have fin:∀ t:String,Zcm st.1 b.1 st.2.1 b.2.1=t->KT .next (upd m2 (S "tag") (.str (S t))) hp:=λt ht=>hKT _ _ _ ⟨rfl,rfl,λy hy=>by (rw[ug];exact (if_neg hy)),by rw[ug,if_pos rfl,ht]⟩;refine Za5 (Zaz (Zah (Zad (Zaa f2 (Zaa f4 (Zdo (Zaj ?_)))))));by_cases c1:st.1 < b.1
  .refine Zbr c1 ?_;refine Zah (Zad (Zaa f3 (Zaa f5 (Zdo (Zaj ?_)))));by_cases c2:st.2.1 < b.2.1
   .refine Zbr c2 ?_;refine Zat ?_;refine if_t ?_;exact Zac (Zan (Zbw (Zaf (fin _ (by unfold Zcm;exact ((if_pos c1).trans ((if_pos c2))))))))
   .refine Zbs c2 (if_f ?_);refine Zac (Za5 (Zad (Zaa f2 (Zaa f4 (Zdo (Zaj ?_))))));refine Zbr c1 ?_;exact Zac (Zan (Zbw (Zaf (Zaf (fin _ (by unfold Zcm;exact ((if_pos c1).trans ((if_neg c2)))))))))
  .refine Zbs c1 (if_f ?_);refine Zac (Za5 (Zad (Zaa f2 (Zaa f4 (Zdo (Zaj ?_))))));refine Zbs c1 ?_;refine Zac (Za5 (Zad (Zaa f3 (Zaa f5 (Zdo (Zaj ?_))))));by_cases c2:st.2.1 < b.2.1
   .refine Zbr c2 ?_;exact Zac (Zan (Zbw (Zaf (Zaf (Zaf (fin _ (by unfold Zcm;exact ((if_neg c1).trans ((if_pos c2))))))))))
   .refine Zbs c2 ?_;refine Zaf (Zaf (Zaf (hKT _ _ _ ⟨rfl,rfl,λ_ _=>rfl,?_⟩)));rw[show Zcm st.1 b.1 st.2.1 b.2.1 = "" from by unfold Zcm;exact ((if_neg c1).trans ((if_neg c2)))];exact f7
 .rintro m3 hp3 ⟨rfl,e3,g7⟩;have g1:m3 (S "answer")=some (.ref aA):=by rw[e3 _ (by decide)];exact f1
  have g2:m3 (S "i")=some (.int st.1):=by rw[e3 _ (by decide)];exact f2
  have g3:m3 (S "j")=some (.int st.2.1):=by rw[e3 _ (by decide)];exact f3
  have g4:m3 (S "ai")=some (.int b.1):=by rw[e3 _ (by decide)];exact f4
  have g5:m3 (S "bj")=some (.int b.2.1):=by rw[e3 _ (by decide)];exact f5
  have g6:m3 (S "size")=some (.int b.2.2):=by rw[e3 _ (by decide)];exact f6
  clear e3 f1 f2 f3 f4 f5 f6 f7;have rest:∀ hp4 ops,ops=st.2.2 ++ (if Zcm st.1 b.1 st.2.1 b.2.1 = "" then [] else [(Zcm st.1 b.1 st.2.1 b.2.1,st.1,b.1,st.2.1,b.2.1)])->ops.length<=2 * k + 1->hp4 aA=some (.list (ops.map oAV))->Hp.Le hb hp4->hp4 it=some (.obj ob) ->
    EXs (model PW W0) A (λ_ _=>False) B (callEnv Zdx L 210) ((kids (codS 4)).drop 3) m3 hp4 KK:=λhp4 ops ho hol h4' h5' hit'=>by
   refine Zac (Za1 hh (names:=[S "i",S "j"]) (Zar (Zab (Zag (Zaa g4 (Zaa g6 (Zav (Zab (Zag (Zaa g5 (Zaa g6 (Zav (Zae ⟨sz rfl,_,rfl,rfl,Zap (Zap (Zas ?_))⟩)))))))))))));have hst':stC bl (k + 1)=(b.1 + b.2.2,b.2.1 + b.2.2,ops ++ (if b.2.2=0 then [] else [("equal",b.1,b.1 + b.2.2,b.2.1,b.2.1 + b.2.2)])):=by rw[hst,stepC,ho,List.append_assoc]
   refine Zac (Za5 (Za2 (Zaa (v:=.int b.2.2) (by assumption) (Zf5 ?_))));by_cases hs:b.2.2=0
   .refine Zbl (show (b.2.2 != 0)=false from by simp[hs]) ?_;refine Zaf (Zaf (hK _ _ ⟨?_,?_,?_,?_,h5'⟩ hit'))
    ·(assumption)
    .rw [hst'];(rfl)
    .rw [hst'];(rfl)
    .rw [hst',if_pos hs,List.append_nil];exact h4'
   .refine Zbq (show (b.2.2 != 0)=true from by simpa using hs) ?_;refine Zac (Za0 (Za9 (Zaa (v:=.ref aA) (by assumption) ⟨aA,_,rfl,h4',haL,Zab (Zar (Zab (Zbw (Zab (Zaa (v:=.int b.1) (by assumption) (Zab (Zaa (v:=.int (b.1 + b.2.2)) (by rfl) (Zab (Zaa (v:=.int b.2.1) (by assumption) (Zab (Zaa (v:=.int (b.2.1 + b.2.2)) (by rfl) (Zae ⟨sz rfl,Zae ⟨_,_,rfl,h4',by rw[List.length_map];exact sz' (by lia),?_⟩⟩))))))))))))⟩)));refine ⟨by nofun,by nofun,by nofun,Zaf (Zaf (hK _ _ ⟨?_,?_,?_,?_,h5'.set hba _⟩ (Hp.snt (Ne.symm hai) hit')))⟩
    ·(assumption)
    .rw [hst'];(rfl)
    .rw [hst'];(rfl)
    .rw [Hp.ss,hst',if_neg hs];simp[oAV]
  refine Zac (Za5 (Za2 (Zaa g7 (Zri ?_ ?_))))
  .unfold Zcm;split <;> split <;> decide
  .by_cases ht:Zcm st.1 b.1 st.2.1 b.2.1 = ""
   .rw [ht,if_neg (by decide)];refine Zaf (rest _ st.2.2 (by rw[if_pos ht,List.append_nil]) (by (exact F20 0x6822075822750 0x11 rfl hlc)) h4 h5 hit)
   .have:((S (Zcm st.1 b.1 st.2.1 b.2.1)).length != 0)=true:=by revert ht;unfold Zcm;split <;> split <;> intro ht <;> first | decide | exact absurd rfl ht
    rw[this,if_pos rfl];refine Zac (Za0 (Za9 (Zaa g1 ⟨aA,_,rfl,h4,haL,Zab (Zar (Zab (Zaa g7 (Zab (Zaa g2 (Zab (Zaa g4 (Zab (Zaa g3 (Zab (Zaa g5 (Zae ⟨sz rfl,Zae ⟨_,_,rfl,h4,by rw[List.length_map];exact sz' (by lia),?_⟩⟩))))))))))))⟩)));refine ⟨by nofun,by nofun,by nofun,Zaf (rest _ (st.2.2 ++ [(Zcm st.1 b.1 st.2.1 b.2.1,st.1,b.1,st.2.1,b.2.1)]) (by rw[if_neg ht]) (by simp;omega) ?_ (h5.set hba _) (Hp.snt (Ne.symm hai) hit))⟩;rw[Hp.ss];simp[oAV]
end
section
noncomputable def codesF (as bs:List Int) (aj:Bool):List Op:=Zn5 (mbF (flmW as bs aj) as.length bs.length)
theorem Znc {x dx aA bA:Addr}{as bs:List Int}{aj:Bool}{Q:QV} (G:Gnd (KW W0) B) (hh:A.handled=none) (hu:A.units + 20 < cLine) (hroom:A.depth + 6 < recursionLimit) {hq:Hp} (hle:Hp.Le hq hp) (MM:MT hq env.locals x dx (.ref aA) (.ref bA) bs aj .none .none)
  (la:Lst B hp env.locals aA (as.map .int)) (lb:Lst B hp env.locals bA (bs.map .int)) (hla:as.length<=4000) (hlb:bs.length<=4000) (hraw:(rawB (flmW as bs aj) as.length bs.length).length < 64) (hres:(mbF (flmW as bs aj) as.length bs.length).length<=200)
  (h:∀ hp' hq' r rb,hp r=none->r≠env.locals->hp' r=some (.list ((codesF as bs aj).map oAV))->MT hq' env.locals x dx (.ref aA) (.ref bA) bs aj (.ref rb) (.ref r)->Hp.Le hq' hp'->(∀ z,hq z=none->hq' z=none)->(∀ z o,z≠dx->z≠env.locals->hp z=some o->hp' z=some o)->hp' env.locals=none->Q (.ref r) hp') :
  CL (model PW W0) A E B env (.ref 210) m [.ref x] hp Q:=by
 refine CD.cl (Zdd (bs:=[(S "self",.ref x)]) (body:=Za7 (mS 8)) G (Zp2 W0) (by kernel_rfl) rfl (by (exact ul0 ‹_›)) (λs vs hv _=>?_) (by kernel_rfl) (by decide) (λL hL hLe=>?_))
 .refine hide λ_ Z=>?_;obtain ⟨v,rfl,h1⟩:=Zbn hv;apply Z;clear Z;exact ⟨[(S "self",v)],BindsTo.of_eq rfl,rfl,VRs.one h1⟩
 .refine hide λ_ Z=>?_;have M':=MM.call (m:=m) (hle.none hL);have hqb:Hp.Le (hq.set env.locals (.ns m)) (hp.set env.locals (.ns m)):=λz o e=>by
   by_cases hz:z=env.locals
   .rw [hz,Hp.ss]at e ⊢;exact e
   .rw [Hp.sn _ _ hz]at e ⊢;exact hle _ _ e
  have hqn:∀ z,hq z=none->z≠env.locals->(hq.set env.locals (.ns m)) z=none:=λz e hz=>Hp.snt hz e;have la':=la.call (m:=m) hL;have lb':=lb.call (m:=m) hL;have hcl:(hp.set env.locals (.ns m)) env.locals=some (.ns m):=Hp.ss ..;have hLc:(hp.set env.locals (.ns m)) L=none:=Hp.snt hLe hL;have hback:∀ z o,z≠env.locals->hp z=some o->(hp.set env.locals (.ns m)) z=some o:=λz o hz e=>Hp.snt hz e;have hbn:∀ z,(hp.set env.locals (.ns m)) z=none->hp z=none/\z≠env.locals:=λz hz=>by
   have:z≠env.locals:=λe=>by rw[e,Hp.ss]at hz;cases hz
   exact ⟨Hp.snr this hz,this⟩
  have g0:Zaq [(S "self",AV.ref x)] (S "self")=some (.ref x):=rfl;generalize hm0:Zaq [(S "self",AV.ref x)]=m0 at *;generalize hp.set env.locals (.ns m)=hb at *;generalize hq.set env.locals (.ns m)=hqE at *;have dE:dx≠env.locals:=MM.xL.2.1;have dL:dx≠L:=M'.xL.2.1;obtain ⟨ma,I0,hmb,hop,hno,_⟩:=M'.keep;apply Z;clear Z;have I:=I0.le hqb;refine Zac (Zcj ?_);refine Zac (Za5 (Zad (Zbc G g0 I hop (Zcc (Zcz (Zaj ?_))))));refine Zbl (show (!AV.isNone .none)=false from rfl) ?_;refine Zaf (Zac (Zba (Zal (Zai (Zai ?_)))));refine Zac (Zba (Za4 (Zae ⟨Nat.zero_le _,λaX haX haL=>?_⟩)));refine hide λ_ Z=>?_;have lea:Hp.Le hb (hb.set aX (.list [])):=(Hp.Le.refl _).set haX _;obtain ⟨ma1,Iq,_,_,_,_,_,_,k1⟩:=M'.keep;apply Z;clear Z;have I1:=(Iq.le hqb).le lea;have Mq:=k1 (.ref aX);have leq:Hp.Le (hqE.set dx (.atr (upd ma1 (S "opcodes") (.ref aX)))) ((hb.set aX (.list [])).set dx (.atr (upd ma1 (S "opcodes") (.ref aX)))):=λz o e=>by
   by_cases hz:z=dx
   .subst hz;rw[Hp.ss]at e ⊢;exact e
   .rw [Hp.sn _ _ hz]at e ⊢;exact lea _ _ (hqb _ _ e)
  have hadx:aX≠dx:=λe=>by replace haX:=I.at_▸e▸haX;cases haX
  refine Za6 G (by assumption) I1 (Zai ?_);have hA1:((hb.set aX (.list [])).set dx (.atr (upd ma1 (S "opcodes") (.ref aX)))) aX=some (.list []):=Hp.snt hadx (Hp.ss ..);have keep1:∀ z o,z≠dx->hb z=some o->((hb.set aX (.list [])).set dx (.atr (upd ma1 (S "opcodes") (.ref aX)))) z=some o:=λz o hz e=>Hp.snt hz (lea _ _ e);have hqa:(hqE.set dx (.atr (upd ma1 (S "opcodes") (.ref aX)))) aX=none:=Hp.snt hadx (hqb.none haX);have hqz:∀ z,hqE z=none->(hqE.set dx (.atr (upd ma1 (S "opcodes") (.ref aX)))) z=none:=λz e=>Hp.snt (λh=>by rw[h,Iq.at_]at e;cases e) e;have M1:=Mq.le leq;generalize (hb.set aX (.list [])).set dx (.atr (upd ma1 (S "opcodes") (.ref aX)))=hp1 at M1 hA1 keep1 leq ⊢;generalize hqE.set dx (.atr (upd ma1 (S "opcodes") (.ref aX)))=hq1 at Mq leq hqa hqz
  try dsimp only
  generalize hm1:upd (upd (upd m0 _ _) _ _) _ _=m1;refine hide λ_ Z=>?_;have p1:m1 (S "self")=some (.ref x):=by subst hm1;(assumption)
  have p2:m1 (S "answer")=some (.ref aX):=by subst hm1;(rfl)
  have p3:m1 (S "i")=some (.int 0):=by subst hm1;(rfl)
  have p4:m1 (S "j")=some (.int 0):=by subst hm1;(assumption)
  clear hm1 g0;obtain ⟨ma2,I2,hmb2,_,hno2,_⟩:=M1.keep;apply Z;clear Z;have lstk:∀ {a:Addr}{xs:List AV},Lst B hb L a xs->Lst B hp1 L a xs:=λ{a xs} y=>by
   rcases y with ⟨e,hh'⟩ | e
   .exact .inl ⟨keep1 _ _ (λh=>by rw[h,I.at_]at e;cases e) e,hh'⟩
   .exact .inr e
  refine Zac (Zd3 hh (Zdt G (clsS W0) (f:=203) (by kernel_rfl) (by kernel_rfl) (by kernel_rfl) (Zaa p1 ⟨x,dx,_,rfl,I2,hno2 "get_matching_blocks" (by decide),?_⟩)));refine Ztu (A:=A.deeper (callEnv Zdx L 210)) (as:=as) (bs:=bs) G hh (by show A.units + 3 + 10 < _;(exact F20 0x8a434700481457040 0x11 rfl hu)) (by show A.depth + 1 + 5 < _;omega) leq Mq (lstk la') (lstk lb') hla hlb hraw λhp2 hq2 rb hr0 hrL hr2 M2 le2 no2 keep2 hL2=>?_;have haX2:hp2 aX=some (.list []):=keep2 _ _ hadx haL hA1;refine ⟨rb,_,rfl,.own hr2 hrL,λit hit hitL=>?_⟩;have hai:aX≠it:=Hp.ne_of haX2 hit;have hri:rb≠it:=Hp.ne_of hr2 hit;have har:aX≠rb:=Hp.ne_of hA1 hr0;have hbA:(hp2.del aX) aX=none:=by simp[Hp.del]
  have leA:Hp.Le (hp2.del aX) hp2:=Hp.del_le _ _;have hbi:(hp2.del aX) it=none:=leA.none hit;have hbr:(hp2.del aX) rb=some (.list ((mbF (flmW as bs aj) as.length bs.length).map triV)):=by rw[Hp.del_ne _ (Ne.symm har)];exact hr2
  refine ⟨λk m₂ hp₂=>IC (hp2.del aX) aX (mbF (flmW as bs aj) as.length bs.length) k m₂ hp₂,λob=>?_,λk m₂ hp₂ ob y=>⟨y.1,y.2.1,y.2.2.1,Hp.snt hai y.2.2.2.1,y.2.2.2.2.set hbi _⟩,λk m₂ hp₂ y=>.own (y.2.2.2.2 _ _ hbr) hrL,λk v m₂ hp₂ ob hv y hob=>?_,λm₂ hp₂ y=>?_⟩
  .exact ⟨p2,p3,p4,Hp.snt hai haX2,leA.set hbi _⟩
  .refine hide λ_ Z=>?_;obtain ⟨b,hbk,rfl⟩:∃ b,(mbF (flmW as bs aj) as.length bs.length)[k]?=some b/\triV b=v:=by rw[List.getElem?_map]at hv;exact Option.map_eq_some_iff.mp hv
   apply Z;clear Z;exact Zjq (A:=A.deeper (callEnv Zdx L 210)) G hh hres hbk y hbA haL hai hob λm' hp' q1 q2=>⟨q1,q2⟩
  .refine hide λ_ Z=>?_;refine aZ y λy1 y2 y3 y4 y5=>?_;apply Z;clear Z;rw[List.length_map]at y4;refine Zac (Zbo (Zaa y1 ?_));refine hide λ_ Z=>?_;have l5:Hp.Le (hp2.del aX) (hp₂.del it):=y5.del hbi;have hE2:hp2 env.locals=some (.ns m):=keep2 _ _ (Ne.symm dE) (Ne.symm hLe) (keep1 _ _ (Ne.symm dE) hcl);have hEa:env.locals≠aX:=λe=>by replace haX:=hcl▸e▸haX;cases haX
   have hl9:(hp₂.del it) env.locals=some (.ns m):=l5 _ _ (by rw[Hp.del_ne _ hEa];exact hE2);obtain ⟨r1,r2⟩:=hbn aX haX;apply Z;clear Z;have haX9:(hp₂.del it) aX=some (.list ((codesF as bs aj).map oAV)):=by rw[Hp.del_ne _ hai,codesF,Zir];exact y4
   have hqc:∀ z o,hq2 z=some o->z≠env.locals->z≠L->(Hp.cut (hp₂.del it) env.locals L) z=some o:=λz o e hzE hzL=>by
    have hza:z≠aX:=λh=>by rw[h,no2 _ hqa]at e;cases e
    rw[Hp.cut_eq hzE hzL];exact l5 _ _ (by rw[Hp.del_ne _ hza];exact le2 _ _ e)
   refine Zcs hl9 (h _ (Hp.cut hq2 env.locals L) aX rb r1 r2 ?_ (M2.move λz o e hns hz=>?_) (λz o e=>?_) (λz e=>?_) (λz o hz hzE e=>?_) (by simp[Hp.cut]))
   .rw [Hp.cut_eq r2 (show aX≠L from haL)];exact haX9
   .have hzE:z≠env.locals:=λh=>by have e':=le2 _ _ e;rw[h,hE2]at e';cases e';exact hns _ rfl
    exact ⟨by rw[Hp.cut_eq hzE (show z≠L from hz)];exact e,hzE⟩
   .by_cases hzE:z=env.locals
    .rw [hzE]at e;simp[Hp.cut]at e
    .by_cases hzL:z=L
     .rw [hzL]at e;simp[Hp.cut]at e
     .rw [Hp.cut_eq hzE hzL]at e;exact hqc z o e hzE hzL
   .by_cases hzE:z=env.locals
    .rw [hzE];simp[Hp.cut]
    .by_cases hzL:z=L
     .rw [hzL];simp[Hp.cut]
     .rw [Hp.cut_eq hzE hzL];exact no2 _ (hqz _ (hqn z e hzE))
   .have hz1:=hback z o hzE e;have hzL:z≠L:=Hp.ne_of hz1 hLc;have hza:z≠aX:=Hp.ne_of hz1 haX;rw[Hp.cut_eq hzE hzL];exact l5 _ _ (by rw[Hp.del_ne _ hza];exact keep2 _ _ hz hzL (keep1 _ _ hz hz1))
end
noncomputable abbrev imax (a b:Int):Int:=if b > a then b else a
noncomputable abbrev imin (a b:Int):Int:=if b < a then b else a
noncomputable def headTrim (n:Int) (l:List Op):List Op:=match l with
 | (t,i1,i2,j1,j2) :: r=>if t = "equal" then (t,imax i1 (i2 - n),i2,imax j1 (j2 - n),j2) :: r else l
 | []=>[]
noncomputable def lastTrim (n:Int) (l:List Op):List Op:=match l.getLast? with
 | some (t,i1,i2,j1,j2)=>if t = "equal" then l.dropLast ++ [(t,i1,imin i2 (i1 + n),j1,imin j2 (j1 + n))] else l
 | none=>[]
noncomputable def Za3 (n:Int) (l:List Op):List Op:=lastTrim n (headTrim n (if l=[] then [("equal",0,1,0,1)] else l))
noncomputable abbrev GSt:=List (List Op) × List Op
noncomputable def Zbm (n:Int) (st:GSt) (o:Op):GSt:=
 if o.1 = "equal" /\ o.2.2.1 - o.2.1 > n + n then
  (st.1 ++ [st.2 ++ [(o.1,o.2.1,imin o.2.2.1 (o.2.1 + n),o.2.2.2.1,imin o.2.2.2.2 (o.2.2.2.1 + n))]],[(o.1,imax o.2.1 (o.2.2.1 - n),o.2.2.1,imax o.2.2.2.1 (o.2.2.2.2 - n),o.2.2.2.2)])
 else (st.1,st.2 ++ [o])
noncomputable def Zaw (n:Int) (l:List Op):List (List Op):=
 let st:=(Za3 n l).foldl (Zbm n) ([],[])
 if st.2=[]\/(st.2.length=1/\(st.2.head?.map (·.1))=some "equal") then st.1 else st.1 ++ [st.2]
noncomputable def grpS (i:Nat):Stmt:=(Za7 (mS 9)).getD i (.Pass ⟨0,0,0,0⟩)
section
theorem Zkl {L cA:Addr}{n:Int}{l:List Op} (G:Gnd (KW W0) B) (hh:A.handled=none) (h1:m (S "codes")=some (.ref cA)) (h2:m (S "n")=some (.int n)) (hc:hp cA=some (.list (l.map oAV))) (hcL:cA≠L) (hne:l≠[]) (hlen:l.length<=1000) :
  EX (model PW W0) A E B (callEnv Zbu L 218) (grpS 3) m hp λf m' hp'=>f = .next/\m' (S "codes")=some (.ref cA)/\m' (S "n")=some (.int n)/\hp'=hp.set cA (.list ((headTrim n l).map oAV)):=by
 conv=>arg 6;whnf
 cases l with
 | nil=>exact absurd rfl hne
 | cons o r=>
  obtain ⟨t,i1,i2,j1,j2⟩:=o;have hl:Lst B hp L cA (((t,i1,i2,j1,j2) :: r).map oAV):=.own hc hcL;refine Za5 ?_;refine Zad ?_;refine Zam ?_;refine Zam ?_;refine Zaa (by assumption) ?_;refine Zal ?_;refine Zay hl (by decide) (by decide) (x:=oAV (t,i1,i2,j1,j2)) rfl ?_;refine Zal ?_;refine Zh8 (j:=0) (x:=.str (S t)) (by decide) (by decide) rfl rfl ?_;refine Zbw ?_;refine Zfk ?_;refine Zaj ?_;have et:(S t == PySem.Str.ofString "equal")=decide (t = "equal"):=by
   by_cases e:t = "equal"
   .subst e;rfl
   .have:S t≠PySem.Str.ofString "equal" := λh=>e (Zcf h);simp[this,e]
  refine et▸?_;by_cases e:t = "equal"
  .refine Zbr e ?_;refine Zac (Zbj ?_);refine Zam ?_;refine Zaa (by assumption) ?_;refine Zal ?_;refine Zay hl (by decide) (by decide) (x:=oAV (t,i1,i2,j1,j2)) rfl ?_;refine Zbh hh rfl rfl rfl (Zak (Zai (Zak (Zai (Zak (Zai (Zak (Zai (Zak (Zai (Zas ?_)))))))))));refine Zac ?_;refine Zc8 ?_;refine Zar ?_;refine Zab ?_;refine Zaa (by rfl) ?_;refine Zab ?_;refine Zau (Zax G (Zfc W0) Zd1 (by decide) (λ_=>Zb2) ⟨rfl,?_⟩);refine Zab ?_;refine Zaa (by rfl) ?_;refine Zab ?_;refine Zag ?_;refine Zaa (by rfl) ?_;refine Zaa (by assumption) ?_;refine Zbe ?_;refine Zae ?_;refine Zfm hh ?_;refine Zab ?_;refine Zaa (by rfl) ?_;refine Zab ?_;refine Zau (Zax G (Zfc W0) Zd1 (by decide) (λ_=>Zb2) ⟨rfl,?_⟩);refine Zab ?_;refine Zaa (by rfl) ?_;refine Zab ?_;refine Zag ?_;refine Zaa (by rfl) ?_;refine Zaa (by assumption) ?_;refine Zbe ?_;refine Zae ?_;refine Zfm hh ?_;refine Zab ?_;refine Zaa (by rfl) ?_;refine Zae ?_;refine ⟨sz rfl,?_⟩;refine Zer ?_;refine Zaa (by assumption) ?_;refine Zal ?_;refine ⟨cA,_,0,rfl,rfl,hc,hcL,.inr ⟨by decide,by simp,by decide⟩,?_⟩;refine Zaf ?_;refine ⟨rfl,by assumption,by assumption,?_⟩;exact e▸rfl
  .refine Zbs e ?_;refine Zaf ?_;refine ⟨rfl,h1,h2,?_⟩;rw[show headTrim n ((t,i1,i2,j1,j2) :: r)=(t,i1,i2,j1,j2) :: r from by exact if_neg e];funext z;by_cases hz:z=cA
   .subst hz;rw[Hp.ss];exact hc
   .exact (Hp.sn _ _ hz).symm
theorem Zkk {L cA:Addr}{n:Int}{l:List Op} (G:Gnd (KW W0) B) (hh:A.handled=none) (h1:m (S "codes")=some (.ref cA)) (h2:m (S "n")=some (.int n)) (hc:hp cA=some (.list (l.map oAV))) (hcL:cA≠L) (hne:l≠[]) (hlen:l.length<=1000) :
  EX (model PW W0) A E B (callEnv Zbu L 218) (grpS 4) m hp λf m' hp'=>f = .next/\m' (S "codes")=some (.ref cA)/\m' (S "n")=some (.int n)/\hp'=hp.set cA (.list ((lastTrim n l).map oAV)):=by
 conv=>arg 6;whnf
 rcases List.eq_nil_or_concat l with hb | ⟨ini,o,hb⟩
 .exact absurd hb hne
 .rw [List.concat_eq_append]at hb;subst hb;obtain ⟨t,i1,i2,j1,j2⟩:=o;have hl:Lst B hp L cA ((ini ++ [(t,i1,i2,j1,j2)]).map oAV):=.own hc hcL;have hx:((ini ++ [(t,i1,i2,j1,j2)]).map oAV)[((-1:Int) + (((ini ++ [(t,i1,i2,j1,j2)]).map oAV).length:Nat)).toNat]?=some (oAV (t,i1,i2,j1,j2)):=by
   have:((-1:Int) + (((ini ++ [(t,i1,i2,j1,j2)]).map oAV).length:Nat)).toNat=ini.length:=by simp;(exact F10 0x8766730604103a 0x101110110101 rfl)
   rw[this];simp
  have hge : -((((ini ++ [(t,i1,i2,j1,j2)]).map oAV).length:Nat):Int)<=-1:=by simp;(exact F10 0x673068 0x1 rfl)
  refine Za5 ?_;refine Zad ?_;refine Zam ?_;refine Zam ?_;refine Zaa (by assumption) ?_
  (refine Zds ?_)
  refine Zal ?_;refine ⟨_,rfl,Zca hl (by decide) (by decide) hge hx ?_⟩;refine Zal ?_;refine Zh8 (j:=0) (x:=.str (S t)) (by decide) (by decide) rfl rfl ?_;refine Zbw ?_;refine Zfk ?_;refine Zaj ?_;have et:(S t == PySem.Str.ofString "equal")=decide (t = "equal"):=by
   by_cases e:t = "equal"
   .subst e;rfl
   .have:S t≠PySem.Str.ofString "equal" := λh=>e (Zcf h);simp[this,e]
  refine et▸?_;by_cases e:t = "equal"
  .refine Zbr e ?_;refine Zac (Zbj ?_);refine Zam ?_;refine Zaa (by assumption) ?_
   (refine Zds ?_)
   refine Zal ?_;refine ⟨_,rfl,Zca hl (by decide) (by decide) hge hx ?_⟩;refine Zbh hh rfl rfl rfl (Zak (Zai (Zak (Zai (Zak (Zai (Zak (Zai (Zak (Zai (Zas ?_)))))))))));refine Zac ?_;refine Zc8 ?_;refine Zar ?_;refine Zab ?_;refine Zaa (by rfl) ?_;refine Zab ?_;refine Zaa (by rfl) ?_;refine Zab ?_;refine Zau (Zax G (Zgq W0) Ze1 (by decide) (λ_=>Zb2) ⟨rfl,?_⟩);refine Zab ?_;refine Zaa (by rfl) ?_;refine Zab ?_;refine Zag ?_;refine Zaa (by rfl) ?_;refine Zaa (by assumption) ?_;refine Zav ?_;refine Zae ?_;refine Zhn hh ?_;refine Zab ?_;refine Zaa (by rfl) ?_;refine Zab ?_;refine Zau (Zax G (Zgq W0) Ze1 (by decide) (λ_=>Zb2) ⟨rfl,?_⟩);refine Zab ?_;refine Zaa (by rfl) ?_;refine Zab ?_;refine Zag ?_;refine Zaa (by rfl) ?_;refine Zaa (by assumption) ?_;refine Zav ?_;refine Zae ?_;refine Zhn hh ?_;refine Zae ?_;refine ⟨sz rfl,?_⟩;refine Zer ?_;refine Zaa (by assumption) ?_
   (refine Zds ?_)
   refine Zal ?_;refine ⟨_,rfl,cA,_,-1,rfl,rfl,hc,hcL,.inl ⟨rfl,by simp⟩,?_⟩;refine Zaf ?_;refine ⟨rfl,by assumption,by assumption,?_⟩;congr 2;simp[stored,lastTrim,e,oAV,List.set_append]
  .refine Zbs e ?_;refine Zaf ?_;refine ⟨rfl,h1,h2,?_⟩;rw[show lastTrim n (ini ++ [(t,i1,i2,j1,j2)])=ini ++ [(t,i1,i2,j1,j2)] from by simp[lastTrim,e]];funext z;by_cases hz:z=cA
   .subst hz;rw[Hp.ss];exact hc
   .exact (Hp.sn _ _ hz).symm
end
noncomputable def Ls (hp:Hp) (ys:List Addr) (gs:List (List Op)):Prop:=ys.length=gs.length/\∀ (i:Nat) (y:Addr) (g:List Op),ys[i]?=some y->gs[i]?=some g->hp y=some (.list (g.map oAV))
theorem Ls.set {hp:Hp}{ys:List Addr}{gs:List (List Op)} (h:Ls hp ys gs) {a:Addr} (ha:a ∉ ys) (o:AO):Ls (hp.set a o) ys gs:=
 ⟨h.1,λi y g hy hg=>by rw[Hp.sn _ _ (show y≠a from λe=>ha (e ▸ List.mem_of_getElem? hy))];exact h.2 i y g hy hg⟩
theorem Ls.snoc {hp:Hp}{ys:List Addr}{gs:List (List Op)} (h:Ls hp ys gs) {a:Addr}{g:List Op} (ha:hp a=some (.list (g.map oAV))):Ls hp (ys ++ [a]) (gs ++ [g]):=by
 refine ⟨by simp[h.1],λi y g' hy hg=>?_⟩;rcases Nat.lt_or_ge i ys.length with hi | hi
 .rw [List.getElem?_append_left hi]at hy;rw[List.getElem?_append_left (by refine h.1▸?_;exact hi)]at hg;exact h.2 i y g' hy hg
 .rw [List.getElem?_append_right hi]at hy;rw[List.getElem?_append_right (by refine h.1▸?_;exact hi)]at hg;have e:i - ys.length=0:=by
   cases hh:i - ys.length with
   | zero=>rfl
   | succ k=>rw[hh]at hy;nomatch hy
  rw[e]at hy;rw[<-h.1,e]at hg;simp only[List.getElem?_cons_zero,Option.some.injEq]at hy hg;subst hy;subst hg;exact ha
theorem Ls.mem {hp:Hp}{ys:List Addr}{gs:List (List Op)} (h:Ls hp ys gs) {y:Addr} (hy:y ∈ ys):∃ g,hp y=some (.list (List.map oAV g)):=by
 obtain ⟨i,hi⟩:=List.getElem?_of_mem hy;have hlt:i < ys.length:=by
  rcases Nat.lt_or_ge i ys.length with h' | h'
  .exact h'
  .rw [List.getElem?_eq_none h']at hi;cases hi
 exact ⟨_,h.2 i y (gs[i]'(by refine h.1▸?_;exact hlt)) hi (List.getElem?_eq_getElem _)⟩
theorem Ls.fresh {hp:Hp}{ys:List Addr}{gs:List (List Op)} (h:Ls hp ys gs) {a:Addr} (ha:hp a=none):a ∉ ys:=λhm=>by obtain ⟨g,e⟩:=h.mem hm;rw[ha]at e;cases e
structure CAt (CI:List (List Op)->Hp->Prop) (gs:List (List Op)) (hc hp:Hp) (L gA:Addr) (g:List Op):Prop where
 ci:CI gs hc
 le:Hp.Le hc hp
 cg:hc gA=none
 cL:hc L=none
 gL:gA≠L
 gl:hp gA=some (.list (g.map oAV))
 n:gs.length < 1000
 k:g.length<=1000
structure CSpec (Cn:Con) (CI:List (List Op)->Hp->Prop) (hk:Hp) (L:Addr):Prop where
 pre:∀ gs hc hp gA g,CAt CI gs hc hp L gA g->Hp.Le hk hp->Cn.pre (.ref gA) hp
 post:∀ gs hc hp gA g hp₂,CAt CI gs hc hp L gA g->Cn.post (.ref gA) hp hp₂->∃ hcV,CI (gs ++ [g]) hcV/\Hp.Le hcV hp₂/\hcV L=none/\∀ z o,hc z=none->z≠gA->hp z=some o->hp₂ z=some o/\hcV z=none
structure GI (hb:Hp) (CI:List (List Op)->Hp->Prop) (L it:Addr) (n:Int) (st:GSt) (gA:Addr) (hc:Hp) (m:Loc) (hp:Hp):Prop where
 hn:m (S "n")=some (.int n)
 hnn:m (S "nn")=some (.int (n + n))
 hg:m (S "group")=some (.ref gA)
 gl:hp gA=some (.list (st.2.map oAV))
 ci:CI st.1 hc
 cle:Hp.Le hc hp
 cg:hc gA=none
 cit:hc it=none
 cL:hc L=none
 cb:∀ z o,hb z=some o->hc z=none
 bg:hb gA=none
 le:Hp.Le hb hp
 gL:gA≠L
 gi:gA≠it
 len:st.1.length + st.2.length<=999
theorem GI.set {hb hc:Hp}{CI:List (List Op)->Hp->Prop}{L it:Addr}{n:Int}{st:GSt}{gA:Addr}{m:Loc}{hp:Hp} (x:GI hb CI L it n st gA hc m hp) (hbi:hb it=none) (ob:Obj):GI hb CI L it n st gA hc m (hp.set it (.obj ob)):=
 { x with gl:=by rw[Hp.sn _ _ x.gi];exact x.gl,cle:=x.cle.set x.cit _,le:=x.le.set hbi _ }
noncomputable def stG (n:Int) (cs:List Op) (k:Nat):GSt:=(cs.take k).foldl (Zbm n) ([],[])
theorem Zin {n:Int}{cs:List Op}{k:Nat}{o:Op} (h:cs[k]?=some o):stG n cs (k + 1)=Zbm n (stG n cs k) o:=Zcv h
theorem Zhp {n:Int}{cs:List Op}:∀ k,(stG n cs k).1.length<=k/\(stG n cs k).2.length<=k:=by
 intro r_
 induction r_ with
 | zero=>
  simp[stG]
 | succ k ih=>
  have ih:=ih;cases h:cs[k]? with
  | none=>
   have hk:cs.length<=k:=List.getElem?_eq_none_iff.mp h;have:stG n cs (k + 1)=stG n cs k:=by unfold stG;rw[List.take_of_length_le (by (exact F20 0x680758750 0x11 rfl hk)),List.take_of_length_le hk]
   refine this▸?_;lia
  | some b=>
   refine (Zin h)▸?_;simp only[Zbm];split
   .simp;(exact F20 0x8758750 0x11 rfl ih.1)
   .simp;lia
noncomputable def forT:Expr:=kidT (grpS 7)
noncomputable def forB:List Stmt:=kids (grpS 7)
section
variable {A:Around}{B:Shared}{m:Loc}{hp:Hp}
theorem Zc1 (t:String):(S t == PySem.Str.ofString "equal")=decide (t = "equal"):=by
 by_cases e:t = "equal"
 .subst e;rfl
 .have:S t≠PySem.Str.ofString "equal" := λh=>e (Zcf h);simp[this,e]
theorem Ze0 {h0:Heap}{Cn:Con}{CI:List (List Op)->Hp->Prop}{hb hc:Hp}{L it gA:Addr}{F:Hp->Prop}{N n':Nat}{c:Code}{fs:List Frame}{K:Flow->Sem PySem.Fin}{H:Value->Sem PySem.Fin}{n:Int}{st st':GSt}{t:String} {i1 i2 j1 j2:Int}{ob:Obj}
  (I:GI hb CI L it n st gA hc m hp) (hit:hp it=some (.obj ob)) (g1:m (S "tag")=some (.str (S t))) (g2:m (S "i1")=some (.int i1)) (g3:m (S "i2")=some (.int i2)) (g4:m (S "j1")=some (.int j1)) (g5:m (S "j2")=some (.int j2))
  (hst:st'=(st.1,st.2 ++ [(t,i1,i2,j1,j2)])) (hl':st'.1.length + st'.2.length<=999) (hN:N<=n')
  (cont:∀ n' mj hpj gA' hc',N<=n'->GI hb CI L it n st' gA' hc' mj hpj->hpj it=some (.obj ob)->GF PW W0 A B (callEnv Zbu L 218) h0 Cn F n' c fs K .next mj hpj) :
  GS PW W0 A B (callEnv Zbu L 218) h0 Cn F n' c fs K H (forB.drop 1) m hp:=by
 refine Zc0 (Za0 (Za9 (Zaa I.hg ⟨gA,_,rfl,I.gl,I.gL,?_⟩)));refine Zab ?_;refine Zar ?_;refine Zab ?_;refine Zaa (by assumption) ?_;refine Zab ?_;refine Zaa (by assumption) ?_;refine Zab ?_;refine Zaa (by assumption) ?_;refine Zab ?_;refine Zaa (by assumption) ?_;refine Zab ?_;refine Zaa (by assumption) ?_;refine Zae ?_;refine ⟨sz rfl,?_⟩;refine Zae ?_;have hlen:=I.len;refine ⟨_,_,rfl,I.gl,by rw[List.length_map];exact sz' (by lia),by nofun,by nofun,by nofun,?_⟩;refine Ze3 (cont n' _ _ gA hc hN ?_ (by rw[Hp.sn _ _ (Ne.symm I.gi)];exact hit));exact { I with gl:=by rw[Hp.ss,hst];simp[oAV],ci:=by rw[hst];exact I.ci,cle:=I.cle.set I.cg _,le:=I.le.set I.bg _,len:=hl' }
theorem Zhx {h0:Heap}{Cn:Con}{CI:List (List Op)->Hp->Prop}{hk hb hc:Hp}{L it gA:Addr}{F:Hp->Prop}{N:Nat}{c:Code}{fs:List Frame}{K:Flow->Sem PySem.Fin}{H:Value->Sem PySem.Fin}{n:Int}{cs:List Op}{k:Nat}{o:Op}{ob:Obj}
  (G:Gnd (KW W0) B) (CS:CSpec Cn CI hk L) (hh:(A.over c fs).handled=none) (hfs:splitAtGen fs=none) (hfg:fs.any Frame.guarded=false) (hlen:cs.length<=300) (ho:cs[k]?=some o) (hkb:Hp.Le hk hb)
  (I:GI hb CI L it n (stG n cs k) gA hc m hp) (hbi:hb it=none) (hit:hp it=some (.obj ob))
  (cont:∀ n' mj hpj gA' hc',N<=n'->GI hb CI L it n (stG n cs (k + 1)) gA' hc' mj hpj->hpj it=some (.obj ob)->GF PW W0 A B (callEnv Zbu L 218) h0 Cn F n' c fs K .next mj hpj) :
  ASG (model PW W0) (A.over c fs) (λ_ _=>False) B (callEnv Zbu L 218) forT (oAV o) m hp λmX hpX=>GS PW W0 A B (callEnv Zbu L 218) h0 Cn F (N + 1) c fs K H forB mX hpX:=by
 obtain ⟨t,i1,i2,j1,j2⟩:=o;have hlg:=Zhp (n:=n) (cs:=cs) k;have hkl:k < cs.length:=by
  rcases Nat.lt_or_ge k cs.length with h' | h'
  .exact h'
  .rw [List.getElem?_eq_none h']at ho;cases ho
 have hst:=Zin (n:=n) ho;refine Zbh hh rfl rfl rfl (Zak (Zai (Zak (Zai (Zak (Zai (Zak (Zai (Zak (Zai (Zas ?_)))))))))))
 try dsimp only
 generalize hm1:upd (upd (upd (upd (upd m _ _) _ _) _ _) _ _) _ _=m1;have g1:m1 (S "tag")=some (.str (S t)):=by subst hm1;(rfl)
 have g2:m1 (S "i1")=some (.int i1):=by subst hm1;(rfl)
 have g3:m1 (S "i2")=some (.int i2):=by subst hm1;(rfl)
 have g4:m1 (S "j1")=some (.int j1):=by subst hm1;(rfl)
 have g5:m1 (S "j2")=some (.int j2):=by subst hm1;(rfl)
 have g6:m1 (S "n")=some (.int n):=by have:=I.hn;subst hm1;(assumption)
 have g7:m1 (S "nn")=some (.int (n + n)):=by have:=I.hnn;subst hm1;(assumption)
 have g8:m1 (S "group")=some (.ref gA):=by have:=I.hg;subst hm1;(assumption)
 clear hm1;refine Ztq ?_;refine Zaz ?_;refine Zah ?_;refine Zad ?_;refine Zaa (by assumption) ?_;refine Zbw ?_;refine Zfk ?_;refine Zaj ?_;rw[Zc1];have hnoyield:¬ (t = "equal" /\ i2 - i1 > n + n)->GS PW W0 A B (callEnv Zbu L 218) h0 Cn F (N + 1) c fs (KK (callEnv Zbu L 218) (forB.drop 1) K H) H [] m1 hp:=λhc=>by
  refine Ze3 (Zga (Ze0 (N:=N) (st:=stG n cs k) (st':=stG n cs (k + 1)) (t:=t) (i1:=i1) (i2:=i2) (j1:=j1) (j2:=j2) { I with hn:=g6,hnn:=g7,hg:=g8 } hit g1 g2 g3 g4 g5 ?_ ?_ (Nat.le_succ _) cont))
  .refine hst.trans ?_;simp only[Zbm];exact (if_neg hc)
  .have:=Zhp (n:=n) (cs:=cs) (k + 1);lia
 by_cases e:t = "equal"
 .refine Zbr e ?_;refine Zah ?_;refine Zad ?_;refine Zag ?_;refine Zaa (by assumption) ?_;refine Zaa (by assumption) ?_;refine Zbe ?_;refine Zaa (by assumption) ?_;refine Zf7 ?_;refine Zaj ?_;by_cases hgt:n + n < i2 - i1
  .refine Zbr hgt ?_;refine Zat ?_;refine if_t ?_;refine Zc0 (Za0 (Za9 (Zaa g8 ⟨gA,_,rfl,I.gl,I.gL,?_⟩)));refine Zab ?_;refine Zar ?_;refine Zab ?_;refine Zaa (by assumption) ?_;refine Zab ?_;refine Zaa (by assumption) ?_;refine Zab ?_;refine Zau (Zax G (Zgq W0) Ze1 (by decide) (λ_=>Zb2) ⟨rfl,?_⟩);refine Zab ?_;refine Zaa (by assumption) ?_;refine Zab ?_;refine Zag ?_;refine Zaa (by assumption) ?_;refine Zaa (by assumption) ?_;refine Zav ?_;refine Zae ?_;refine Zhn hh ?_;refine Zab ?_;refine Zaa (by assumption) ?_;refine Zab ?_;refine Zau (Zax G (Zgq W0) Ze1 (by decide) (λ_=>Zb2) ⟨rfl,?_⟩);refine Zab ?_;refine Zaa (by assumption) ?_;refine Zab ?_;refine Zag ?_;refine Zaa (by assumption) ?_;refine Zaa (by assumption) ?_;refine Zav ?_;refine Zae ?_;refine Zhn hh ?_;refine Zae ?_;refine ⟨sz rfl,?_⟩;refine Zae ?_;refine ⟨_,_,rfl,I.gl,by rw[List.length_map];exact sz' (by lia),by nofun,by nofun,by nofun,?_⟩;generalize hg':(stG n cs k).2.map oAV ++ _=gl';have hgl':gl'=((stG n cs k).2 ++ [(t,i1,imin i2 (i1 + n),j1,imin j2 (j1 + n))]).map oAV:=by refine hg'▸?_;simp[oAV]
   have hit':(hp.set gA (.list gl')) it=some (.obj ob):=by rw[Hp.sn _ _ (Ne.symm I.gi)];exact hit
   have leb:Hp.Le hb (hp.set gA (.list gl')):=I.le.set I.bg _;have hat:CAt CI (stG n cs k).1 hc (hp.set gA (.list gl')) L gA ((stG n cs k).2 ++ [(t,i1,imin i2 (i1 + n),j1,imin j2 (j1 + n))]):=
    ⟨I.ci,I.cle.set I.cg _,I.cg,I.cL,I.gL,by rw[Hp.ss,hgl'],by lia,by rw[List.length_append];show _ + 1<=1000;lia⟩
   refine Zjd hfs hfg (Zaa g8 ⟨CS.pre _ _ _ _ _ hat (hkb.trans leb),λhp₂ hpo=>?_⟩);refine ap (CS.post _ _ _ _ _ _ hat hpo) λhcV c1 c2 c3 c4=>?_;have hi2:=c4 it _ I.cit (Ne.symm I.gi) hit';have hb2:∀ z o,hb z=some o->hp₂ z=some o/\hcV z=none:=λz o hz=>c4 z o (I.cb z o hz) (λe=>by rw[e,I.bg]at hz;cases hz) (leb _ _ hz);clear hpo hat leb hit' hgl' hg';refine Zc0 (Zan (Za4 (Zae ⟨sz rfl,λbA hbA hbL=>?_⟩)));refine Zc0 (Za1 hh (names:=[S "i1",S "j1"]) ?_);refine Zar ?_;refine Zab ?_;refine Zau (Zax G (Zfc W0) Zd1 (by decide) (λ_=>Zb2) ⟨rfl,?_⟩);refine Zab ?_;refine Zaa (by assumption) ?_;refine Zab ?_;refine Zag ?_;refine Zaa (by assumption) ?_;refine Zaa (by assumption) ?_;refine Zbe ?_;refine Zae ?_;refine Zfm hh ?_;refine Zab ?_;refine Zau (Zax G (Zfc W0) Zd1 (by decide) (λ_=>Zb2) ⟨rfl,?_⟩);refine Zab ?_;refine Zaa (by assumption) ?_;refine Zab ?_;refine Zag ?_;refine Zaa (by assumption) ?_;refine Zaa (by assumption) ?_;refine Zbe ?_;refine Zae ?_;refine Zfm hh ?_;refine Zae ?_;refine ⟨sz rfl,?_⟩;refine ⟨_,rfl,rfl,Zap (Zap (Zas ?_))⟩;dsimp only;have hbh:hb bA=none:=by
    cases e:hb bA with
    | none=>rfl
    | some o=>rw[(hb2 bA o e).1]at hbA;cases hbA
   have hbi':bA≠it:=Ne.symm (Hp.ne_of hi2.1 hbA);refine Ze3 (Zga (Ze0 (N:=N) (st:=((stG n cs k).1 ++ [(stG n cs k).2 ++ [(t,i1,imin i2 (i1 + n),j1,imin j2 (j1 + n))]],[])) (st':=stG n cs (k + 1)) (t:=t) (i1:=imax i1 (i2 - n)) (i2:=i2) (j1:=imax j1 (j2 - n)) (j2:=j2) (gA:=bA) (hc:=hcV) ⟨?_,?_,?_,?_,c1,c2.set (c2.none hbA) _,c2.none hbA,hi2.2,c3,λz o hz=>(hb2 z o hz).2,hbh,λz o hz=>?_,hbL,hbi',?_⟩ ?_ ?_ ?_ ?_ ?_ ?_ ?_ ?_ (Nat.le_refl _) cont))
   ·(assumption)
   ·(assumption)
   ·(rfl)
   .rw [Hp.ss];rfl
   .rw [Hp.sn _ _ (λe=>by rw[e,hbh]at hz;cases hz)];exact (hb2 z o hz).1
   .simp;lia
   .rw [Hp.sn _ _ (Ne.symm hbi')];exact hi2.1
   ·(assumption)
   ·(rfl)
   ·(assumption)
   ·(rfl)
   ·(assumption)
   .refine hst.trans ?_;simp only[Zbm];rw[if_pos ⟨e,hgt⟩];rfl
   .have:=Zhp (n:=n) (cs:=cs) (k + 1);lia
  .refine Zbs hgt (if_f ?_);exact hnoyield (λh=>hgt h.2)
 .refine Zbs e (if_f ?_);exact hnoyield (λh=>e h.1)
end
structure MK (hp:Hp) (L x dx aA bA:Addr) (bs:List Int) (aj:Bool) (cd:Option (Addr × List Op)):Prop where
 ex:∃ hq mb op,Hp.Le hq hp/\MT hq L x dx (.ref aA) (.ref bA) bs aj mb op/\match cd with | none=>mb = .none/\op = .none | some r=>op = .ref r.1/\hq r.1=none/\r.1≠L/\hp r.1=some (.list (r.2.map oAV))
open Classical in
noncomputable def Hp.both (hq hp':Hp):Hp:=λz=>if hp' z=hq z then hq z else none
theorem Hp.both_le (hq hp':Hp):Hp.Le (Hp.both hq hp') hp':=λz o e=>by
 unfold Hp.both at e;split at e
 .rename_i h;rw[h];exact e
 .cases e
theorem Hp.both_some {hq hp':Hp}{z:Addr}{o:AO} (h1:hq z=some o) (h2:hp' z=some o):Hp.both hq hp' z=some o:=by unfold Hp.both;rw[if_pos (h2.trans h1.symm)];exact h1
theorem Hp.both_none {hq hp':Hp}{z:Addr} (h:hq z=none):Hp.both hq hp' z=none:=by
 unfold Hp.both;split
 .exact h
 .rfl
theorem MK.move {hp hp':Hp}{L L' x dx aA bA:Addr}{bs:List Int}{aj:Bool}{cd:Option (Addr × List Op)} (M:MK hp L x dx aA bA bs aj cd) (h:∀ z o,hp z=some o->(∀ m,o≠.ns m)->z≠L->hp' z=some o/\z≠L'):MK hp' L' x dx aA bA bs aj cd:=by
 refine hide λ_ Z=>?_;refine aH M.ex λhq mb op le M c=>?_;apply Z;clear Z;refine ⟨Hp.both hq hp',mb,op,Hp.both_le _ _,M.move λz o e hn hz=>?_,?_⟩
 .obtain ⟨a,b⟩:=h z o (le _ _ e) hn hz;exact ⟨Hp.both_some e a,b⟩
 .cases cd with
  | none=>exact c
  | some r=>
   refine hide λ_ Z=>?_;refine ak c λc1 c2 c3 c4=>?_;obtain ⟨a,b⟩:=h _ _ c4 (by nofun) c3;apply Z;clear Z;exact ⟨c1,Hp.both_none c2,b,a⟩
theorem MK.le {hp hp':Hp}{L x dx aA bA:Addr}{bs:List Int}{aj:Bool}{cd:Option (Addr × List Op)} (M:MK hp L x dx aA bA bs aj cd) (le:Hp.Le hp hp'):MK hp' L x dx aA bA bs aj cd:=M.move λz o e _ hz=>⟨le _ _ e,hz⟩
noncomputable def opsC (cd:Option (Addr × List Op)) (fresh:List Op):List Op:=match cd with | none=>fresh | some r=>r.2
section
noncomputable def KC (hp hq:Hp) (L:Addr) (cd:Option (Addr × List Op)) (mb op:AV):Prop:=match cd with | none=>mb = .none/\op = .none | some r=>op = .ref r.1/\hq r.1=none/\r.1≠L/\hp r.1=some (.list (r.2.map oAV))
theorem Zd5 {x dx aA bA:Addr}{as bs:List Int}{aj:Bool}{cd:Option (Addr × List Op)}{mb op:AV}{Q:QV} (G:Gnd (KW W0) B) (hh:A.handled=none) (hu:A.units + 20 < cLine) (hroom:A.depth + 6 < recursionLimit) {hq:Hp} (le:Hp.Le hq hp) (MM:MT hq env.locals x dx (.ref aA) (.ref bA) bs aj mb op) (c:KC hp hq env.locals cd mb op)
  (la:Lst B hp env.locals aA (as.map .int)) (lb:Lst B hp env.locals bA (bs.map .int)) (hla:as.length<=4000) (hlb:bs.length<=4000) (hraw:(rawB (flmW as bs aj) as.length bs.length).length < 64) (hres:(mbF (flmW as bs aj) as.length bs.length).length<=200)
  (h:∀ hp' hq' mb' r,r≠env.locals->(cd=none/\hp r=none\/∃ o,cd=some (r,o))->hp' r=some (.list ((opsC cd (codesF as bs aj)).map oAV))->Hp.Le hq' hp'->MT hq' env.locals x dx (.ref aA) (.ref bA) bs aj mb' (.ref r)->hq' r=none->(∀ z,hq z=none->hq' z=none)->(∀ z o,z≠dx->z≠env.locals->hp z=some o->hp' z=some o)->Q (.ref r) hp') :
  CL (model PW W0) A E B env (.ref 210) m [.ref x] hp Q:=by
 cases cd with
 | none=>
  refine hide λ_ Z=>?_;obtain ⟨rfl,rfl⟩:=c;apply Z;clear Z;refine Znc G hh hu hroom le MM la lb hla hlb hraw hres λhp' hq' r rb h1 h2 h3 h4 h5 h6 h7 _=>?_;exact h hp' hq' _ r h2 (.inl ⟨rfl,h1⟩) h3 h5 h4 (h6 _ (le.none h1)) h6 h7
 | some r=>
  refine hide λ_ Z=>?_;obtain ⟨rfl,c2,c3,c4⟩:=c;apply Z;clear Z;refine CD.cl (Zdd (bs:=[(S "self",.ref x)]) (body:=Za7 (mS 8)) G (Zp2 W0) (by kernel_rfl) rfl (by (exact ul0 ‹_›)) (λs vs hv _=>?_) (by kernel_rfl) (by decide) (λL hL hLe=>?_))
  .refine hide λ_ Z=>?_;obtain ⟨v,rfl,h1⟩:=Zbn hv;apply Z;clear Z;exact ⟨[(S "self",v)],BindsTo.of_eq rfl,rfl,VRs.one h1⟩
  .refine hide λ_ Z=>?_;obtain ⟨ma,I0,hmb,hop,_⟩:=(MM.call (m:=m) (le.none hL)).keep;apply Z;clear Z
   have I:=I0.le (hp':=hp.set env.locals (.ns m)) (λz o e=>by
    by_cases hz:z=env.locals
    .rw [hz,Hp.ss]at e ⊢;exact e
    .rw [Hp.sn _ _ hz]at e ⊢;exact le _ _ e)
   have g0:Zaq [(S "self",AV.ref x)] (S "self")=some (.ref x):=rfl;generalize hm0:Zaq [(S "self",AV.ref x)]=m0 at *;refine Zac (Zcj ?_);refine Zac (Za5 (Zad (Zbc G g0 I hop (Zcc (Zcz (Zaj ?_))))));refine Zbq (show (!AV.isNone (.ref r.1))=true from rfl) ?_;exact Zac (Zbo (Zbc G g0 I hop (Zc3 hL (h hp hq _ r.1 c3 (.inr ⟨_,rfl⟩) c4 le MM c2 (λ_ e=>e) λz o _ _ e=>e))))
end
noncomputable def ops1 (l:List Op):List Op:=if l=[] then [("equal",0,1,0,1)] else l
theorem Zkz (l:List Op):ops1 l≠[]:=by unfold ops1;split <;> simp_all
theorem headTrim_len (n:Int) (l:List Op):(headTrim n l).length=l.length:=by
 unfold headTrim;split
 .split <;> rfl
 .rfl
theorem lastTrim_len (n:Int) (l:List Op):(lastTrim n l).length=l.length:=by
 unfold lastTrim;rcases List.eq_nil_or_concat l with h | ⟨ini,o,h⟩
 .subst h;rfl
 .rw [List.concat_eq_append]at h;subst h;obtain ⟨t,i1,i2,j1,j2⟩:=o;simp only[List.getLast?_append,List.getLast?_singleton,Option.some_or];split <;> simp
section
variable {A:Around}{B:Shared}{m:Loc}{hp:Hp}
noncomputable def Zbf (n:Int) (l:List Op):List Op:=if l=[] then [] else Za3 n l
noncomputable def Hp.minus (hp hc:Hp):Hp:=λz=>if (hc z).isSome then none else hp z
theorem Hp.minus_le (hp hc:Hp):Hp.Le (hp.minus hc) hp:=λz o e=>by
 unfold Hp.minus at e;split at e
 .cases e
 .exact e
theorem Hp.minus_eq {hp hc:Hp}{z:Addr} (h:hc z=none):hp.minus hc z=hp z:=by unfold Hp.minus;refine h.symm▸?_;rfl
theorem Hp.minus_none {hp hc:Hp}{z:Addr}{o:AO} (h:hp.minus hc z=some o):hc z=none:=by
 unfold Hp.minus at h;split at h
 .cases h
 .rename_i e;cases e':hc z with
  | none=>rfl
  | some o=>rw[e']at e;exact absurd rfl e
theorem Zg3 {h0:Heap}{Cn:Con}{CI:List (List Op)->Hp->Prop} {hk hb hb0 hq hc:Hp}{L x dx aA bA:Addr}{as bs:List Int}{aj:Bool}{cd:Option (Addr × List Op)}{mb op:AV}{ops:List Op}{n:Int}{F:Hp->Prop}{c:Code}
  (G:Gnd (KW W0) B) (CS:CSpec Cn CI hk L) (hh:A.handled=none) (hu:(A.over c []).units + 30 < cLine) (hroom:(A.over c []).depth + 7 < recursionLimit)
  (le:Hp.Le hq hb) (MM:MT hq L x dx (.ref aA) (.ref bA) bs aj mb op) (kc:KC hb hq L cd mb op) (la:Lst B hb L aA (as.map .int)) (lb:Lst B hb L bA (bs.map .int)) (hla:as.length<=4000) (hlb:bs.length<=4000) (hraw:(rawB (flmW as bs aj) as.length bs.length).length < 64) (hres:(mbF (flmW as bs aj) as.length bs.length).length<=200)
  (hops:ops=opsC cd (codesF as bs aj)) (hlen:ops.length<=150)
  (ci:CI [] hc) (cle:Hp.Le hc hb) (cL:hc L=none) (cdx:hc dx=none) (cq:∀ z o,hq z=some o->hc z=none) (cr:∀ r o,cd=some (r,o)->hc r=none) (cb:∀ z o,hb0 z=some o->hc z=none)
  (hbL:hb0 L=none) (hle0:Hp.Le hb0 hb) (hd0:hb0 dx=none) (hr0:∀ r o,cd=some (r,o)->hb0 r=none) (hkb:Hp.Le hk hb0)
  (m1:m (S "self")=some (.ref x)) (m2:m (S "n")=some (.int n))
  (fin:∀ hp' m' hc' r hq' mb',CI (Zaw n ops) hc'->Hp.Le hc' hp'->(∀ z o,hb0 z=some o->hc' z=none)->(∀ z o,hq' z=some o->hc' z=none)->hc' r=none->hc' L=none->Hp.Le hb0 hp'->Hp.Le hq' hp'->MT hq' L x dx (.ref aA) (.ref bA) bs aj mb' (.ref r)->hq' r=none->(∀ z,hq z=none->hq' z=none)->(∀ r' l,cd=some (r',l)->r'=r)->r≠L->hp' r=some (.list ((Zbf n ops).map oAV))->hb0 r=none->F (hp'.set L (.ns m'))) :
  GS PW W0 A B (callEnv Zbu L 218) h0 Cn F 302 c [] Kf (Hf (callEnv Zbu L 218)) (Za7 (mS 9)) m hb:=by
 refine Zc0 (Zcj ?_);refine Zje (λm' hp'=>∃ r hq' mb',m' (S "codes")=some (.ref r)/\m' (S "n")=some (.int n)/\hp' r=some (.list (ops.map oAV))/\Hp.Le hc hp'/\hc r=none/\Hp.Le hb0 hp'/\r≠L/\hb0 r=none/\Hp.Le hq' hp'/\MT hq' L x dx (.ref aA) (.ref bA) bs aj mb' (.ref r)/\hq' r=none/\(∀ z,hq z=none->hq' z=none)/\∀ r' l,cd=some (r',l)->r'=r) ?_ ?_
 .obtain ⟨ma,I,_,_,hno,_⟩:=MM.keep;refine Zan (Zdt G (clsS W0) (f:=210) (by kernel_rfl) (by kernel_rfl) (by kernel_rfl) (Zaa m1 ⟨x,dx,_,rfl,I.le le,hno "get_opcodes" (by decide),?_⟩));refine Zd5 (as:=as) (bs:=bs) (aj:=aj) G hh (by (exact ul ‹_› (by decide))) (by (exact Nat.lt_of_succ_lt ‹_›)) le MM kc la lb hla hlb hraw hres λhp' hq' mb' r hrL hr hpr hle' MM' hqr hqn keep=>?_;refine ⟨rfl,r,hq',mb',by rfl,by assumption,by rw[hops];exact hpr,λz o hz=>?_,?_,λz o hz=>?_,hrL,?_,hle',MM',hqr,hqn,λr' l e=>?_⟩
  .exact keep z o (λe=>by rw[e,cdx]at hz;cases hz) (λe=>by rw[show z=L from e,cL]at hz;cases hz) (cle _ _ hz)
  .rcases hr with ⟨-,h⟩ | ⟨o,h⟩
   .exact cle.none h
   .exact cr r o h
  .exact keep z o (λe=>by rw[e,hd0]at hz;cases hz) (λe=>by rw[show z=L from e,hbL]at hz;cases hz) (hle0 _ _ hz)
  .rcases hr with ⟨-,h⟩ | ⟨o,h⟩
   .exact hle0.none h
   .exact hr0 r o h
  .rcases hr with ⟨h,-⟩ | ⟨o,h⟩
   .rw [h]at e;cases e
   .rw [h]at e;cases e;rfl
 rintro m3 hp3 ⟨r,hq',mb',f1,f2,f3,f4,f5,f6,rL,f7,f8,MM',f10,f11,f15⟩;have cq':∀ z o,hq' z=some o->hc z=none:=λz o hz=>by
  cases e:hq z with
  | none=>rw[f11 z e]at hz;cases hz
  | some o'=>exact cq z o' e
 refine Zje (λm' hp'=>∃ cA,m' (S "codes")=some (.ref cA)/\m' (S "n")=some (.int n)/\hp' cA=some (.list ((ops1 ops).map oAV))/\Hp.Le hc hp'/\hc cA=none/\Hp.Le hb0 hp'/\cA≠L/\hb0 cA=none/\Hp.Le hq' hp'/\hq' cA=none/\hp' r=some (.list (ops.map oAV))/\(ops=[]/\cA≠r\/ops≠[]/\cA=r)) ?_ ?_
 .refine Za5 ?_;refine Zf3 ?_;refine Za2 ?_;refine Zaa (by assumption) ?_;refine Zf4 f3 rL (by rw[List.length_map];exact sz' (by (exact Nat.le_trans ‹_› (by decide)))) ?_;by_cases hz:ops=[]
  .refine hz.symm▸?_;refine Zbq (show (!!(List.map oAV []).isEmpty)=true from rfl) ?_;refine Zac (Zan (Za4 ?_));refine Zab ?_;refine Zar ?_;refine Zab ?_;refine Zbw ?_;refine Zab ?_;refine Zal ?_;refine Zab ?_;refine Zal ?_;refine Zab ?_;refine Zal ?_;refine Zab ?_;refine Zal ?_;refine Zae ?_;refine ⟨sz rfl,?_⟩;refine Zae ?_;refine ⟨sz rfl,?_⟩;intro dA hdA hdL;exact Zaf ⟨rfl,dA,by rfl,by assumption,Hp.ss ..,f4.set (f4.none hdA) _,f4.none hdA,f6.set (f6.none hdA) _,hdL,f6.none hdA,f8.set (f8.none hdA) _,f8.none hdA,by rw[Hp.sn _ _ (Hp.ne_of f3 hdA),<-hz];exact f3,.inl ⟨rfl,Ne.symm (Hp.ne_of f3 hdA)⟩⟩
  .refine Zbl (show (!!(List.map oAV ops).isEmpty)=false from by cases ops with | nil=>exact absurd rfl hz | cons a b=>rfl) ?_;exact Zaf ⟨rfl,r,f1,f2,by unfold ops1;rw[if_neg hz];exact f3,f4,f5,f6,rL,f7,f8,f10,f3,.inr ⟨hz,rfl⟩⟩
 have rc:=f5;have rb0:=f7;clear f1 f2 f3 f4 f5 f6 f7 f8;rintro m4 hp4 ⟨cA,f1,f2,f3,f4,f5,f6,f7,f8,f9,f12,f13,f14⟩;have hl1:(ops1 ops).length<=200:=by
  unfold ops1;split
  .decide
  ·(exact Nat.le_trans ‹_› (by decide))
 refine Zje _ (Zkl G hh f1 f2 f3 f7 (Zkz _) (by (exact Nat.le_trans ‹_› (by decide)))) ?_;rintro m5 hp5 ⟨g1,g2,g3⟩;have hne:headTrim n (ops1 ops)≠[]:=λe=>by have:=headTrim_len n (ops1 ops);rw[e]at this;exact Zkz ops (List.length_eq_zero_iff.mp this.symm)
 refine Zje _ (Zkk (l:=headTrim n (ops1 ops)) G hh g1 g2 (by rw[g3,Hp.ss]) f7 hne (by rw[headTrim_len];(exact Nat.le_trans ‹_› (by decide)))) ?_;rintro m6 hp6 ⟨k1,k2,k3⟩;subst g3;rw[Hp.set_set]at k3;have hcod:lastTrim n (headTrim n (ops1 ops))=Za3 n ops:=rfl;rw[hcod]at k3;have hcl:(Za3 n ops).length<=200:=by rw[<-hcod,lastTrim_len,headTrim_len];exact hl1
 have hpc:hp6 cA=some (.list ((Za3 n ops).map oAV)):=by rw[k3,Hp.ss]
 have hcc:Hp.Le hc hp6:=by rw[k3];exact f4.set f5 _
 have hpl:Hp.Le hb0 hp6:=by rw[k3];exact f6.set f8 _
 have hql:Hp.Le hq' hp6:=by rw[k3];exact f9.set f12 _
 have hpr:hp6 r=some (.list ((Zbf n ops).map oAV)):=by
  rcases f14 with ⟨e1,e2⟩ | ⟨e1,e2⟩
  .rw [k3,Hp.sn _ _ (Ne.symm e2),f13];unfold Zbf;rw[if_pos e1,e1]
  .rw [k3,<-e2,Hp.ss];unfold Zbf;rw[if_neg e1]
 clear k3 f9 f12 f13 f14;generalize hcod':Za3 n ops=cs at *;refine Zc0 (Zan ?_);refine Zag ?_;refine Zaa (by assumption) ?_;refine Zaa (by assumption) ?_;refine Zav ?_;refine Zc0 (Zan (Za4 (Zae ⟨sz rfl,λgA hgA hgL=>?_⟩)));have hcg:cA≠gA:=Hp.ne_of hpc hgA;have hle1:Hp.Le (hp6.minus hc) hp6:=Hp.minus_le _ _;have cb1:∀ z o,(hp6.minus hc) z=some o->hc z=none:=λz o e=>Hp.minus_none e;have hcb:(hp6.minus hc) cA=some (.list (cs.map oAV)):=by rw[Hp.minus_eq f5];exact hpc
 have h01:Hp.Le hb0 (hp6.minus hc):=λz o e=>by rw[Hp.minus_eq (cb z o e)];exact hpl _ _ e
 have hq1:Hp.Le hq' (hp6.minus hc):=λz o e=>by rw[Hp.minus_eq (cq' z o e)];exact hql _ _ e
 have hr1:(hp6.minus hc) r=some (.list ((Zbf n ops).map oAV)):=by rw[Hp.minus_eq rc];exact hpr
 have hg1:(hp6.minus hc) gA=none:=hle1.none hgA;have hkb1:Hp.Le hk (hp6.minus hc):=hkb.trans h01;generalize hp6.minus hc=hb1 at hle1 cb1 hcb hg1 h01 hkb1 hq1 hr1;refine Zro (λit kk p=>hh) (Zaa (v:=.ref cA) (by assumption) ⟨cA,cs.map oAV,rfl,.own (by rw[Hp.sn _ _ hcg];exact hpc) f7,λit hit hitL=>?_⟩);have hit6:hp6 it=none:=((Hp.Le.refl hp6).set hgA _).none hit;have hiti:hb1 it=none:=hle1.none hit6;have hgi:gA≠it:=Hp.ne_of (Hp.ss ..) hit;refine ⟨λk m' hp'=>∃ gA hc',GI hb1 CI L it n (stG n cs k) gA hc' m' hp',λi=>cs.length - i + 1,by show cs.length - 0 + 1<=302;(exact Nat.lt_of_le_of_lt ‹_› (by decide)),λob=>?_,λi m₂ hp₂ ob ⟨gA,hc',x⟩=>⟨gA,hc',x.set hiti ob⟩,λi m₂ hp₂ ⟨gA,hc',x⟩=>.own (x.le _ _ hcb) f7,?_,?_⟩
 .refine ⟨gA,hc,by assumption,by rfl,by rfl,?_,ci,(hcc.set (hcc.none hgA) _).set (hcc.none hit6) _,hcc.none hgA,hcc.none hit6,cL,cb1,hg1,(hle1.set hg1 _).set hiti _,hgL,hgi,by simp[stG]⟩;rw[Hp.sn _ _ hgi,Hp.ss];rfl
 .rintro kk p K' H' i y m₂ hp₂ ob hy ⟨gA',hc',x⟩ hob cont;obtain ⟨o,hok,rfl⟩:∃ o,cs[i]?=some o/\oAV o=y:=by rw[List.getElem?_map]at hy;exact Option.map_eq_some_iff.mp hy
  have hil:i < cs.length:=by
   rcases Nat.lt_or_ge i cs.length with h' | h'
   .exact h'
   .rw [List.getElem?_eq_none h']at hok;cases hok
  have:=Zhx (c:=.forLoop forT (.ref it) forB [] (callEnv Zbu L 218)) (fs:=[.ret kk none false [] c p []]) (N:=cs.length - i) (K:=K') (H:=H') (F:=F) (h0:=h0) G CS hh rfl rfl (by (exact Nat.le_trans ‹_› (by decide))) hok hkb1 x hiti hob (λn' mj hpj gA'' hc'' hN x' hob'=>cont n' mj hpj (by show cs.length - (i + 1) + 1<=n';(exact F30 0xb6805b750a940890a67081a 0x11101011100110 rfl hil hN)) ⟨gA'',hc'',x'⟩ hob');exact this
 .rintro m₂ hp₂ ⟨gA',hc',x⟩;rw[List.length_map]at x ⊢;have hst:stG n cs cs.length=cs.foldl (Zbm n) ([],[]):=by unfold stG;exact congrArg _ List.take_length
  have hN:(λi=>cs.length - i + 1) cs.length=1:=by show cs.length - cs.length + 1=1;(exact F10 0x66706771a 0x101100110101 rfl)
  rw[hN];have gl':(hp₂.del it) gA'=some (.list ((stG n cs cs.length).2.map oAV)):=by rw[Hp.del_ne _ x.gi];exact x.gl
  have le':Hp.Le hb1 (hp₂.del it):=x.le.del hiti;have cle':Hp.Le hc' (hp₂.del it):=x.cle.del x.cit;have hgl:m₂ (S "group")=some (.ref gA'):=x.hg;have hgL':=x.gL;have hat:CAt CI (stG n cs cs.length).1 hc' (hp₂.del it) L gA' (stG n cs cs.length).2:=⟨x.ci,cle',x.cg,x.cL,x.gL,gl',by have:=x.len;lia,by have:=x.len;lia⟩;have hlen2:=x.len;have xb:=x.cb;have xg:=x.bg;clear x;generalize hp₂.del it=hpz at *;have fin':∀ hp' m' hc',CI (Zaw n ops) hc'->Hp.Le hc' hp'->hc' L=none->(∀ z o,hb1 z=some o->hp' z=some o/\hc' z=none)->F (hp'.set L (.ns m')):=λhp' m' hc' a b c d=>
   fin hp' m' hc' r hq' mb' a b (λz o e=>(d z o (h01 _ _ e)).2) (λz o e=>(d z o (hq1 _ _ e)).2) (d r _ hr1).2 c (λz o e=>(d z o (h01 _ _ e)).1) (λz o e=>(d z o (hq1 _ _ e)).1) MM' f10 f11 f15 rL (d r _ hr1).1 rb0
  have keep:¬ ((stG n cs cs.length).2=[]\/((stG n cs cs.length).2.length=1/\((stG n cs cs.length).2.head?.map (·.1))=some "equal")) ->
    GS PW W0 A B (callEnv Zbu L 218) h0 Cn F 1 c [] (KK (callEnv Zbu L 218) [] Kf (Hf (callEnv Zbu L 218))) (Hf (callEnv Zbu L 218)) (kids (grpS 8)) m₂ hpz:=λhcn=>by
   refine Zjd rfl rfl (Zaa hgl ⟨CS.pre _ _ _ _ _ hat (hkb1.trans le'),λhpX hpo=>?_⟩);refine ap (CS.post _ _ _ _ _ _ hat hpo) λhcX c1 c2 c3 c4=>?_;refine Ze3 (Zga (Ze3 (Zqc ?_)));refine fin' _ _ hcX ?_ c2 c3 λz o e=>c4 z o (xb z o e) (λh=>by rw[h,xg]at e;cases e) (le' _ _ e);have e:Zaw n ops=(stG n cs cs.length).1 ++ [(stG n cs cs.length).2]:=by unfold Zaw;refine hcod'.symm▸hst▸?_;exact (if_neg hcn)
   rw[e];exact c1
  have drop:((stG n cs cs.length).2=[]\/((stG n cs cs.length).2.length=1/\((stG n cs cs.length).2.head?.map (·.1))=some "equal")) ->
    GS PW W0 A B (callEnv Zbu L 218) h0 Cn F 1 c [] (KK (callEnv Zbu L 218) [] Kf (Hf (callEnv Zbu L 218))) (Hf (callEnv Zbu L 218)) [] m₂ hpz:=λhcn=>by
   refine Ze3 (Zga (Ze3 (Zqc ?_)));refine fin' _ _ hc' ?_ cle' hat.cL λz o e=>⟨le' _ _ e,xb z o e⟩;have e:Zaw n ops=(stG n cs cs.length).1:=by unfold Zaw;refine hcod'.symm▸hst▸?_;exact (if_pos hcn)
   rw[e];exact hat.ci
  clear hst hat
  generalize stG n cs cs.length=st at *;obtain ⟨st1,st2⟩:=st;dsimp only at *;refine Ztq ?_;refine Zaz ?_;refine Zah ?_;refine Za2 ?_;refine Zaa (by assumption) ?_;refine Zf4 gl' hgL' (by rw[List.length_map];exact sz' (by lia)) ?_;cases st2 with
  | nil=>
   refine Zbl (show (!(List.map oAV []).isEmpty)=false from rfl) (if_f ?_);exact drop (.inl rfl)
  | cons o r=>
   obtain ⟨t,i1,i2,j1,j2⟩:=o;refine Zbq (show (!(List.map oAV ((t,i1,i2,j1,j2) :: r)).isEmpty)=true from rfl) ?_;refine Zah ?_;refine Zf3 ?_;refine Zaz ?_;refine Zah ?_;refine Zad ?_;refine Zau (Zax G (Zct W0) Zb9 (by decide) (λ_=>Zb2) ⟨rfl,Zab (Zaa hgl (Zae (Zec (.own gl' hgL') (by rw[List.length_map];exact sz' (by lia)) ?_)))⟩);refine Zal ?_;refine Zd2 ?_;refine Zaj ?_;rw[List.length_map];by_cases h1:r.length=0
   .refine Zbq (show ((((t,i1,i2,j1,j2) :: r).length:Int) == 1)=true from by simp[h1]) ?_;refine Zah ?_;refine Zad ?_;refine Zam ?_;refine Zam ?_;refine Zaa (by assumption) ?_;refine Zal ?_;refine Zay (.own gl' hgL') (by decide) (by decide) (x:=oAV (t,i1,i2,j1,j2)) rfl ?_;refine Zal ?_;refine Zh8 (j:=0) (x:=.str (S t)) (by decide) (by decide) rfl rfl ?_;refine Zbw ?_;refine Zfk ?_;refine Zaj ?_;rw[Zc1];by_cases e:t = "equal"
    .refine Zbr e ?_;refine Zat ?_;refine Zbl (show (!true)=false from rfl) (if_f ?_);exact drop (.inr ⟨by exact congrArg _ h1,by exact congrArg _ e⟩)
    .refine Zbs e ?_;refine Zbq (show (!false)=true from rfl) ?_;refine Zat ?_;refine if_t ?_;exact keep (by simp[e])
   .refine Zbl (show ((((t,i1,i2,j1,j2) :: r).length:Int) == 1)=false from by simp;(exact F10 0x6673092047620 0x11101 rfl h1)) ?_;refine Zbq (show (!false)=true from rfl) ?_;refine Zat ?_;refine if_t ?_;exact keep (by simp;intro h;simp[h]at h1)
end
noncomputable def cut2 (hp:Hp) (L L':Addr):Hp:=λz=>if z=L\/z=L' then none else hp z
theorem Zd0 {hp:Hp}{L L' z:Addr} (h1:z≠L) (h2:z≠L'):cut2 hp L L' z=hp z:=by
 unfold cut2;rw[if_neg];rintro (h | h)
 .exact h1 h
 .exact h2 h
theorem Zmb {hp hp':Hp}{L L':Addr} (l:Hp.Le hp hp'):Hp.Le (cut2 hp L L') (cut2 hp' L L'):=λz o e=>by
 unfold cut2 at e ⊢;split at e
 .cases e
 .rename_i h;rw[if_neg h];exact l _ _ e
noncomputable def Zh1 (hb:Hp) (dx:Addr) (cd:Option (Addr × List Op)):Hp:=match cd with | none=>hb.del dx | some r=>(hb.del dx).del r.1
theorem drop2_le {hb:Hp}{dx:Addr}{cd:Option (Addr × List Op)}:Hp.Le (Zh1 hb dx cd) hb:=by
 cases cd with
 | none=>exact Hp.del_le _ _
 | some r=>exact (Hp.del_le _ _).trans (Hp.del_le _ _)
theorem Zow {hb:Hp}{dx:Addr}{cd:Option (Addr × List Op)}:Zh1 hb dx cd dx=none:=by
 have h:(hb.del dx) dx=none:=by simp[Hp.del]
 cases cd with
 | none=>exact h
 | some r=>exact (Hp.del_le (hb.del dx) r.1).none h
theorem Zq8 {hb:Hp}{dx:Addr}{cd:Option (Addr × List Op)} (r:Addr) (l:List Op) (e:cd=some (r,l)):Zh1 hb dx cd r=none:=by subst e;show ((hb.del dx).del r) r=none;simp[Hp.del]
theorem Zcx {hb:Hp}{dx z:Addr}{o:AO}{cd:Option (Addr × List Op)} (e:hb z=some o) (h1:z≠dx) (h2:∀ r l,cd=some (r,l)->z≠r):Zh1 hb dx cd z=some o:=by
 cases cd with
 | none=>show (hb.del dx) z=_;rw[Hp.del_ne _ h1];exact e
 | some r=>show ((hb.del dx).del r.1) z=_;rw[Hp.del_ne _ (h2 r.1 r.2 rfl),Hp.del_ne _ h1];exact e
noncomputable def lCI (S:Addr) (gs:List (List Op)) (hc:Hp):Prop:=∃ ys:List Addr,hc S=some (.list (ys.map .ref))/\Ls hc ys gs/\S ∉ ys/\ys.Nodup
theorem Zlf {hk:Hp}{S L:Addr} (hSL:S≠L):CSpec (lcon hk S L) (lCI S) hk L where
 pre gs hc hp gA g c k:=by refine hide λ_ Z=>?_;refine ap c.ci λys y1 y2 y3 y4=>?_;apply Z;clear Z;exact ⟨ys.map .ref,c.le _ _ y1,hSL,by rw[List.length_map,y2.1];exact c.n,k⟩
 post gs hc hp gA g hp₂ c p:=by
  refine hide λ_ Z=>?_;refine ap c.ci λys y1 y2 y3 y4=>?_;obtain ⟨acc,a1,rfl⟩:=p;rw[c.le _ _ y1]at a1;have ea:acc=ys.map .ref:=(by cases a1;rfl);subst ea;apply Z;clear Z;have hgS:gA≠S:=λe=>by have:=c.cg;rw[e,y1]at this;cases this
  have hgy:gA ∉ ys:=y2.fresh c.cg;refine ⟨(hc.set S (.list ((ys ++ [gA]).map .ref))).set gA (.list (g.map oAV)),⟨ys ++ [gA],by rw[Hp.sn _ _ hgS.symm,Hp.ss],((y2.set y3 _).set hgy _).snoc (Hp.ss ..),by simp[y3,hgS.symm],List.nodup_append.mpr ⟨y4,by simp,λa ha b hb e=>by rw[List.mem_singleton]at hb;subst hb;exact hgy (e ▸ ha)⟩⟩,λz o hz=>?_,by rw[Hp.sn _ _ c.gL.symm,Hp.sn _ _ hSL.symm];exact c.cL,λz o h1 h2 h3=>?_⟩
  .by_cases e:z=gA
   .subst e;rw[Hp.ss]at hz;rw[Hp.sn _ _ hgS,c.gl];exact hz
   .rw [Hp.sn _ _ e]at hz;by_cases e':z=S
    .subst e';rw[Hp.ss]at hz ⊢;refine hz▸List.map_append▸?_;rfl
    .rw [Hp.sn _ _ e']at hz ⊢;exact c.le _ _ hz
  .have e':z≠S:=λe=>by rw[e,y1]at h1;cases h1
   exact ⟨by rw[Hp.sn _ _ e'];exact h3,by rw[Hp.sn _ _ h2,Hp.sn _ _ e'];exact h1⟩
section
structure GrpOut (hp hp' hqc:Hp) (L x dx aA bA:Addr) (bs:List Int) (aj:Bool) (cd:Option (Addr × List Op)) (ops:List Op) (n:Int) (sA:Addr) (ys:List Addr) (r:Addr):Prop where
 s0:hp sA=none
 sL:sA≠L
 s:hp' sA=some (.list (ys.map .ref))
 ls:Ls hp' ys (Zaw n ops)
 y:∀ z ∈ ys,z≠L/\z≠r/\z≠sA
 y0:∀ z ∈ ys,z≠dx->hp z=none
 nd:ys.Nodup
 keep:∀ z o,z≠dx->(∀ r' l,cd=some (r',l)->z≠r')->z≠L->hp z=some o->hp' z=some o
 M:MK hp' L x dx aA bA bs aj (some (r,Zbf n ops))
 rs:r≠sA
 rr:∀ z o,hp z=some o->z≠dx->(∀ r' l,cd=some (r',l)->z≠r')->z≠L->z≠r
 hq:∃ hq' mb',Hp.Le hq' hp'/\MT hq' L x dx (.ref aA) (.ref bA) bs aj mb' (.ref r)/\hq' r=none/\hq' sA=none/\(∀ z ∈ ys,hq' z=none)/\∀ z,hqc z=none->hq' z=none
theorem Ztt {func o e:Expr} {apos ipos pos}{pl:Sem Bool}{x dx aA bA:Addr}{as bs:List Int}{aj:Bool}{cd:Option (Addr × List Op)}{mb op:AV}{hqc:Hp}{ops:List Op}{n:Int}{Q:QV} (G:Gnd (KW W0) B) (hh:A.handled=none) (hu:A.units + 60 < cLine) (hroom:A.depth + 20 < recursionLimit)
  (le:Hp.Le hqc hp) (MM:MT hqc env.locals x dx (.ref aA) (.ref bA) bs aj mb op) (kc:KC hp hqc env.locals cd mb op) (la:Lst B hp env.locals aA (as.map .int)) (lb:Lst B hp env.locals bA (bs.map .int)) (hla:as.length<=4000) (hlb:bs.length<=4000) (hraw:(rawB (flmW as bs aj) as.length bs.length).length < 64) (hres:(mbF (flmW as bs aj) as.length bs.length).length<=200)
  (hops:ops=opsC cd (codesF as bs aj)) (hlen:ops.length<=150)
  (h:EV (model PW W0) A E B env func m hp λfv hpZ=>fv = .ty "list" /\ EV (model PW W0) A E B env o m hpZ λv hp₁=>v = .ref x/\hp₁=hp/\EV (model PW W0) A E B env e m hp₁ λu hp₂=>u = .int n/\hp₂=hp)
  (k:∀ hp' sA ys r,GrpOut hp hp' hqc env.locals x dx aA bA bs aj cd ops n sA ys r->Q (.ref sA) hp')
  (hc0:eval (.Call func [.Call (.Attribute o (S "get_grouped_opcodes") apos) [e] [] ipos] [] pos) env=(do callWith pos (<-eval func env) [] (backTo pos (starEach [.Call (.Attribute o (S "get_grouped_opcodes") apos) [e] [] ipos] env)) (backToKw pos (keywordEach [] env))):=by rfl)
  (he0:starEach [.Call (.Attribute o (S "get_grouped_opcodes") apos) [e] [] ipos] env=[(false,eval (.Call (.Attribute o (S "get_grouped_opcodes") apos) [e] [] ipos) env)]:=by rfl)
  (hc:eval (.Call (.Attribute o (S "get_grouped_opcodes") apos) [e] [] ipos) env=(do
   let ov <-eval o env
   standAt apos.atName
   let (f,first) <-holding [ov] (getMethod ov (S "get_grouped_opcodes") pl)
   callWith ipos f first (backTo ipos (starEach [e] env)) []):=by rfl)
  (he:starEach [e] env=(false,eval e env) :: starEach [] env:=by rfl) (hplain:(backTo ipos (starEach [] env)).any (·.1)=false:=by rfl) :
  EV (model PW W0) A E B env (.Call func [.Call (.Attribute o (S "get_grouped_opcodes") apos) [e] [] ipos] [] pos) m hp Q:=by
 obtain ⟨ma,I0,_,_,hno,_⟩:=MM.keep;have I:=I0.le le;refine Zkf (fd:=Zbu) (body:=Za7 (mS 9)) G (clsS W0) (f:=218) (by kernel_rfl) (by kernel_rfl) (by kernel_rfl) hh (by (exact ul0 ‹_›)) (kGrp W0) (by kernel_rfl) rfl (by decide) ?_ hc0 he0 hc he hplain;refine h.mono λfv hpZ y=>⟨y.1,y.2.mono λv hp₁ z=>?_⟩;obtain ⟨rfl,rfl,z⟩:=z;refine ⟨x,dx,ma,rfl,I,hno "get_grouped_opcodes" (by decide),Zab (z.mono λu hp₂ q=>Zae ?_) (he:=he)⟩;obtain ⟨rfl,rfl⟩:=q;refine ⟨[(S "n",.int n),(S "self",.ref x)],302,λs ws hv hk=>?_,by kernel_rfl,λgn g h0 L' J sA go hL' hL'e hJ hJe hJL hS hSe hSL hSJ=>?_⟩
 .refine ad (Zbg hv) λv u V h1 h2=>?_;subst V;exact ⟨[(S "self",v),(S "n",u)],binds_K (G.X.keeps hk) rfl (by rfl) rfl rfl rfl,rfl,.mk h2 (.mk h1 .nil)⟩
 generalize hL:env.locals=L at *;have n1:L≠L':=Ne.symm hL'e;have hb1:∀ z o,z≠L->hp₂ z=some o->((hp₂.set L (.ns m)).set J (.obj go)) z=some o:=λz o hz e=>by rw[Hp.sn _ _ (Hp.ne_of e hJ),Hp.sn _ _ hz];exact e
 have hb2:∀ z,((hp₂.set L (.ns m)).set J (.obj go)) z=none->hp₂ z=none:=λz hz=>by
  have a:z≠J:=λe=>by rw[e,Hp.ss]at hz;cases hz
  rw[Hp.sn _ _ a]at hz;have b:z≠L:=λe=>by rw[e,Hp.ss]at hz;cases hz
  rw[Hp.sn _ _ b]at hz;exact hz
 have hJ0:((hp₂.set L (.ns m)).set J (.obj go)) J=some (.obj go):=Hp.ss ..;have hL0:((hp₂.set L (.ns m)).set J (.obj go)) L=some (.ns m):=Hp.snt (Ne.symm hJe) (Hp.ss ..);have hL1:((hp₂.set L (.ns m)).set J (.obj go)) L'=none:=by rw[Hp.sn _ _ (Ne.symm hJL),Hp.sn _ _ hL'e];exact hL'
 have hS1:((hp₂.set L (.ns m)).set J (.obj go)) sA=none:=by rw[Hp.sn _ _ hSJ,Hp.sn _ _ hSe];exact hS
 have la1:Lst B ((hp₂.set L (.ns m)).set J (.obj go)) L' aA (as.map .int):=(la.call (m:=m) hL').le ((Hp.Le.refl _).set (by rw[Hp.sn _ _ hJe];exact hJ) _);have lb1:Lst B ((hp₂.set L (.ns m)).set J (.obj go)) L' bA (bs.map .int):=(lb.call (m:=m) hL').le ((Hp.Le.refl _).set (by rw[Hp.sn _ _ hJe];exact hJ) _);generalize (hp₂.set L (.ns m)).set J (.obj go)=hb at *;have MM':MT (hqc.del L) L' x dx (.ref aA) (.ref bA) bs aj mb op:=MM.move λz o e hn hz=>⟨by rw[Hp.del_ne _ hz];exact e,Hp.ne_of (le _ _ e) hL'⟩;have le1:Hp.Le (hqc.del L) hb:=λz o e=>by
  by_cases hz:z=L
  .subst hz;simp[Hp.del]at e
  .rw [Hp.del_ne _ hz]at e;exact hb1 z o hz (le _ _ e)
 have kc1:KC hb (hqc.del L) L' cd mb op:=by
  cases cd with
  | none=>exact kc
  | some r=>exact ⟨kc.1,(Hp.del_le hqc L).none kc.2.1,Hp.ne_of kc.2.2.2 hL',hb1 _ _ kc.2.2.1 kc.2.2.2⟩
 have hdL:dx≠L:=I.dL;have hdJ:dx≠J:=Hp.ne_of I.at_ hJ;have hrL:∀ r' l,cd=some (r',l)->r'≠L/\r'≠J:=λr' l e=>by subst e;exact ⟨kc.2.2.1,Hp.ne_of kc.2.2.2 hJ⟩
 have hls:Hp.Le hb (hb.set sA (.list [])):=(Hp.Le.refl _).set hS1 _;have kc2:KC (hb.set sA (.list [])) (hqc.del L) L' cd mb op:=by
  cases cd with
  | none=>exact kc1
  | some r=>exact ⟨kc1.1,kc1.2.1,kc1.2.2.1,hls _ _ kc1.2.2.2⟩
 have o1:∀ z o,hb z=some o->(Hp.set (λ_=>none) sA (.list [])) z=none:=λz o e=>by exact (Hp.sn _ _ (Hp.ne_of e hS1))
 refine Zg3 (B:=BG B gn g .running) (A:=A.in1.in1.in1) (CI:=lCI sA) (hk:=Hp.set (λ_=>none) J (.obj go)) (hc:=Hp.set (λ_=>none) sA (.list [])) (hb:=hb.set sA (.list [])) (hb0:=Zh1 hb dx cd) (as:=as) (bs:=bs) (aj:=aj) (cd:=cd) (ops:=ops) (n:=n) ⟨G.X,G.top,G.lim⟩ (Zlf hSL) hh ?_ ?_ (le1.trans hls) MM' kc2 (la1.le hls) (lb1.le hls) hla hlb hraw hres hops hlen
  ⟨[],Hp.ss ..,⟨rfl,λi y g hy=>by nomatch hy⟩,by nofun,.nil⟩ (λz o e=>by
   by_cases hz:z=sA
   .subst hz;rw[Hp.ss]at e ⊢;exact e
   .rw [Hp.sn _ _ hz]at e;cases e) (Hp.sn _ _ hSL.symm) (o1 _ _ (hb1 dx _ hdL I.at_)) (λz o e=>o1 z o (le1 _ _ e)) (λr o e=>by subst e;exact o1 _ _ kc1.2.2.2) (λz o e=>o1 z o (drop2_le _ _ e))
  (drop2_le.none hL1) (drop2_le.trans hls) Zow (λr o e=>Zq8 r o e) (λz o hz=>?_) rfl rfl ?_
 .have e:(A.in1.in1.in1.over (Code.func (Za7 (mS 9)) (callEnv Zbu L' 218)) []).units<=A.units + 20:=by (show A.units + 1 + 1 + 1 + 0 + 3<=_;(exact F10 0x1457034046667000005 0x1 rfl))
  (exact F30 0x81e59041457095083c57040 0x111 rfl hu e)
 .show A.depth + 1 + 7 < _;(exact F20 0x8746700481457040 0x11 rfl hroom)
 .by_cases e:z=J
  .subst e;rw[Hp.ss]at hz;exact Zcx (by rw[hJ0];exact hz) (Ne.symm hdJ) λr' l e=>Ne.symm (hrL r' l e).2
  .rw [Hp.sn _ _ e]at hz;cases hz
 intro hp' m' hc' r hq' mb' ⟨ys,ys1,ys2,ys3,ys4⟩ hcl hcb hcq hcr hcL hle hleq MM2 hqr hqn hrr hr1 hkept hb0r;have hs':hp' sA=some (.list (ys.map .ref)):=hcl _ _ ys1;have hls:Ls hp' ys (Zaw n ops):=⟨ys2.1,λi y g hy hg=>hcl _ _ (ys2.2 i y g hy hg)⟩;have hnot:∀ z,hc' z=none->z ∉ ys:=λz h=>ys2.fresh h;have hrS:r≠sA:=λe=>by replace hcr:=ys1▸e▸hcr;cases hcr
 have hy:∀ y ∈ ys,y≠L'/\Zh1 hb dx cd y=none/\hq' y=none/\y≠r:=λy hm=>⟨λe=>hnot _ hcL (e ▸ hm),by
  cases e:Zh1 hb dx cd y with
  | none=>rfl
  | some o=>exact absurd hm (hnot _ (hcb _ _ e)),by
  cases e:hq' y with
  | none=>rfl
  | some o=>exact absurd hm (hnot _ (hcq _ _ e)),λe=>hnot _ hcr (e ▸ hm)⟩
 have hqs:hq' sA=none:=by
  cases e:hq' sA with
  | none=>rfl
  | some o=>have:=hcq _ _ e;rw[ys1]at this;cases this
 have hpL:hp' L=some (.ns m):=hle _ _ (Zcx hL0 (Ne.symm hdL) λr' l e=>Ne.symm (hrL r' l e).1);have hrL2:r≠L:=λe=>by rw[e,hpL]at hkept;cases hkept
 have hyl:∀ y ∈ ys,y≠L:=λy hm e=>by obtain ⟨g,hg⟩:=hls.mem hm;rw[e,hpL]at hg;cases hg
 have MM3:MT (cut2 hq' L L') L x dx (.ref aA) (.ref bA) bs aj mb' (.ref r):=MM2.move λz o e hn hz=>by
  have zL:z≠L:=λh=>by have:=hleq _ _ e;rw[h,hpL]at this;cases this;exact hn _ rfl
  exact ⟨by rw[Zd0 zL hz];exact e,zL⟩
 have cn:∀ z,hq' z=none->cut2 hq' L L' z=none:=λz e=>by unfold cut2;split <;> first | rfl | exact e
 have hkept':(cut2 hp' L L') r=some (.list ((Zbf n ops).map oAV)):=by rw[Zd0 hrL2 hr1];exact hkept
 refine ⟨cut2 hp' L L',λz o hz=>?_,k _ sA ys r ⟨hS,hSe,by rw[Zd0 hSe hSL];exact hs',⟨hls.1,λi y g hy' hg=>?_⟩,λz hz=>⟨hyl z hz,(hy z hz).2.2.2,λe=>ys3 (e ▸ hz)⟩,λz hz hzd=>?_,ys4,λz o h1 h2 h3 e=>?_,⟨cut2 hq' L L',mb',.ref r,Zmb hleq,MM3,rfl,cn _ hqr,hrL2,hkept'⟩,hrS,λz o e z1 z2 z3 h=>(by rw[<-h,Zcx (hb1 z o z3 e) z1 z2]at hb0r;cases hb0r),cut2 hq' L L',mb',Zmb hleq,MM3,cn _ hqr,cn _ hqs,λz hz=>cn _ (hy z hz).2.2.1,λz hz=>cn _ (hqn z ((Hp.del_le hqc L).none hz))⟩⟩
 .by_cases hzL:z=L
  .subst hzL;rw[Hp.ss]at hz;rw[Hp.sn _ _ n1,hpL];exact hz
  .rw [Hp.sn _ _ hzL]at hz;have hzL':z≠L':=λe=>by rw[e]at hz;unfold cut2 at hz;rw[if_pos (.inr rfl)]at hz;cases hz
   rw[Hp.sn _ _ hzL']
   rwa [Zd0 hzL hzL']at hz
 .have hm:=List.mem_of_getElem? hy';rw[Zd0 (hyl y hm) (hy y hm).1];exact hls.2 i y g hy' hg
 .cases e:hp₂ z with
  | none=>rfl
  | some o=>
   have h1:=(hy z hz).2.1;rw[Zcx (hb1 z o (hyl z hz) e) hzd λr' l er=>by rw[hrr r' l er];exact (hy z hz).2.2.2]at h1;cases h1
 .have hzL':z≠L':=Hp.ne_of e hL';rw[Zd0 h3 hzL'];exact hle _ _ (Zcx (hb1 z o h3 e) h1 h2)
end
theorem lastTrim_snoc (n:Int) (l:List Op) (o:Op):lastTrim n (l ++ [o])=l ++ lastTrim n [o]:=by
 obtain ⟨t,i1,i2,j1,j2⟩:=o;unfold lastTrim;simp only[List.getLast?_append,List.getLast?_singleton,Option.some_or];by_cases h:t = "equal"
 .subst h;simp
 .simp [h]
theorem headTrim_cons (n:Int) (o:Op) (l:List Op):headTrim n (o :: l)=headTrim n [o] ++ l:=by
 obtain ⟨t,i1,i2,j1,j2⟩:=o;unfold headTrim;simp only;by_cases h:t = "equal"
 .subst h;rfl
 .simp [h]
theorem Zg2 (i k m n:Int):imax (imax i (k - m)) (k - n)=imax i (k - imin n m):=by delta imax imin;by_cases h1:k - m > i <;> by_cases h2:m < n <;> simp only[h1,h2,if_true,if_false] <;> split <;> (try split) <;> lia
theorem Zgz (i k m n:Int):imin (imin k (i + m)) (i + n)=imin k (i + imin n m):=by unfold imin;by_cases h1:i + m < k <;> by_cases h2:m < n <;> simp only[h1,h2,if_true,if_false] <;> split <;> (try split) <;> lia
theorem Zg0 (i k n:Int):imin k (imax i (k - n) + n)=k:=by delta imax imin;by_cases h1:k - n > i <;> simp only[h1,if_true,if_false] <;> split <;> (first | exact F02 0x788710978871070 0x101 rfl ‹_› | exact F01 0x779 0x11 rfl | exact F03 0x897098970709817720 0x110011 rfl h1 ‹_›)
noncomputable def hT (n:Int) (o:Op):Op:=if o.1 = "equal" then (o.1,imax o.2.1 (o.2.2.1 - n),o.2.2.1,imax o.2.2.2.1 (o.2.2.2.2 - n),o.2.2.2.2) else o
noncomputable def lT (n:Int) (o:Op):Op:=if o.1 = "equal" then (o.1,o.2.1,imin o.2.2.1 (o.2.1 + n),o.2.2.2.1,imin o.2.2.2.2 (o.2.2.2.1 + n)) else o
theorem headTrim_one (n:Int) (o:Op):headTrim n [o]=[hT n o]:=by obtain ⟨t,i1,i2,j1,j2⟩:=o;delta headTrim hT;by_cases h:t = "equal" <;> simp[h]
theorem lastTrim_one (n:Int) (o:Op):lastTrim n [o]=[lT n o]:=by obtain ⟨t,i1,i2,j1,j2⟩:=o;delta lastTrim lT;by_cases h:t = "equal" <;> simp[h]
theorem hT_hT (n m:Int) (o:Op):hT n (hT m o)=hT (imin n m) o:=by
 obtain ⟨t,i1,i2,j1,j2⟩:=o;unfold hT;by_cases h:t = "equal"
 .simp only [h,if_true,Prod.mk.injEq,true_and,and_true];exact ⟨Zg2 ..,Zg2 ..⟩
 .simp [h]
theorem Zsy (n m:Int) (o:Op):lT n (lT m o)=lT (imin n m) o:=by
 obtain ⟨t,i1,i2,j1,j2⟩:=o;unfold lT;by_cases h:t = "equal"
 .simp only [h,if_true,Prod.mk.injEq,true_and,and_true];exact ⟨Zgz ..,Zgz ..⟩
 .simp [h]
theorem Zsz (n:Int) (o:Op):lT n (hT n o)=hT n o:=by
 obtain ⟨t,i1,i2,j1,j2⟩:=o;delta lT hT;by_cases h:t = "equal"
 .simp only [h,if_true,Prod.mk.injEq,true_and,and_true];exact ⟨Zg0 ..,Zg0 ..⟩
 .simp [h]
theorem keptC_one (n:Int) (o:Op):Zbf n [o]=[hT n o]:=by delta Zbf Za3;rw[if_neg (by nofun),if_neg (by nofun),headTrim_one,lastTrim_one,Zsz]
theorem keptC_more (n:Int) (o p:Op) (l:List Op):Zbf n (o :: (l ++ [p]))=hT n o :: (l ++ [lT n p]):=by delta Zbf Za3;rw[if_neg (by nofun),if_neg (by nofun),headTrim_cons,headTrim_one,<-List.append_assoc,lastTrim_snoc,lastTrim_one];rfl
theorem keptC_keptC (n m:Int) (l:List Op):Zbf n (Zbf m l)=Zbf (imin n m) l:=by
 cases l with
 | nil=>rfl
 | cons o l=>
  rcases List.eq_nil_or_concat l with e | ⟨l',p,e⟩
  .subst e;rw[keptC_one,keptC_one,keptC_one,hT_hT]
  .rw [List.concat_eq_append]at e;subst e;rw[keptC_more,keptC_more,keptC_more,hT_hT,Zsy]
noncomputable def Gf (n:Int) (cs:List Op):List (List Op):=
 let st:=cs.foldl (Zbm n) ([],[])
 if st.2=[]\/(st.2.length=1/\(st.2.head?.map (·.1))=some "equal") then st.1 else st.1 ++ [st.2]
theorem groupsOf_Gf (n:Int) (l:List Op):Zaw n l=Gf n (Za3 n l):=rfl
noncomputable def hdG (f:Op->Op):List (List Op)->List (List Op)
 | (o :: g) :: r=>(f o :: g) :: r
 | gs=>gs
noncomputable def hdS (f:Op->Op):GSt->GSt
 | ([],o :: g)=>([],f o :: g)
 | ((o :: x) :: r,g)=>((f o :: x) :: r,g)
 | st=>st
noncomputable def Has1 (st:GSt):Prop:=match st with | ([],g)=>g≠[] | (x :: _,g)=>x≠[]/\g≠[]
theorem Zkr (n:Int) (st:GSt) (o:Op) (h:Has1 st):Has1 (Zbm n st o):=by
 obtain ⟨gs,g⟩:=st;unfold Zbm;cases gs with
 | nil=>
  split
  .exact ⟨by simp,by nofun⟩
  .show g ++ [o]≠[];simp
 | cons x r=>
  split
  .exact ⟨h.1,by nofun⟩
  .exact ⟨h.1,by simp⟩
theorem Znp (n:Int) (f:Op->Op) (st:GSt) (o:Op) (h:Has1 st):Zbm n (hdS f st) o=hdS f (Zbm n st o):=by
 obtain ⟨gs,g⟩:=st;cases gs with
 | nil=>
  cases g with
  | nil=>exact absurd rfl h
  | cons a g=>delta Zbm hdS;split <;> rfl
 | cons x r=>
  cases x with
  | nil=>exact absurd rfl h.1
  | cons a x=>delta Zbm hdS;split <;> rfl
theorem Zhz (n:Int) (f:Op->Op):∀ (l:List Op) (st:GSt),Has1 st->l.foldl (Zbm n) (hdS f st)=hdS f (l.foldl (Zbm n) st)/\Has1 (l.foldl (Zbm n) st)
 | [],st,h=>⟨rfl,h⟩
 | o :: l,st,h=>by rw[List.foldl_cons,List.foldl_cons,Znp n f st o h];exact Zhz n f l _ (Zkr n st o h)
noncomputable def lsG (f:Op->Op) (gs:List (List Op)):List (List Op):=match gs.getLast? with
 | none=>gs
 | some g=>gs.dropLast ++ [match g.getLast? with | none=>g | some p=>g.dropLast ++ [f p]]
theorem lsG_snoc (f:Op->Op) (gs:List (List Op)) (g:List Op) (p:Op):lsG f (gs ++ [g ++ [p]])=gs ++ [g ++ [f p]]:=by unfold lsG;simp
noncomputable def Zng (k:Int) (gs:List (List Op)):List (List Op):=lsG (lT k) (hdG (hT k) gs)
theorem Zs6 (f:Op->Op) (st:GSt) (h:Has1 st) (p:Op):hdG f (st.1 ++ [st.2 ++ [p]])=(hdS f st).1 ++ [(hdS f st).2 ++ [p]]:=by
 obtain ⟨gs,g⟩:=st;cases gs with
 | nil=>
  cases g with
  | nil=>exact absurd rfl h
  | cons a g=>rfl
 | cons x r=>
  cases x with
  | nil=>exact absurd rfl h.1
  | cons a x=>rfl
noncomputable def Zhf (n:Int) (o:Op):Prop:=¬ (o.1 = "equal" /\ o.2.2.1 - o.2.1 > n + n)
theorem Zem {n k:Int} (h0 : 0<=k) (hk:k<=n) (o:Op):Zhf n (hT k o):=by
 delta Zhf hT;split
 .rintro ⟨_,h⟩;dsimp only at h;unfold imax at h;split at h <;> (first | exact F03 0x37919188070878070480 0x121 rfl h0 hk h | exact F04 0x39a1880707a19720878070480 0x1121 rfl h0 hk ‹_› h)
 .rename_i hne;exact λh=>hne h.1
theorem Zfx {n k:Int} (h0 : 0<=k) (hk:k<=n) (o:Op):Zhf n (lT k o):=by
 delta Zhf lT;split
 .rintro ⟨_,h⟩;dsimp only at h;unfold imin at h;split at h <;> (first | exact F03 0x39790188070878070480 0x121 rfl h0 hk h | exact F04 0x39a188070a790720878070480 0x1121 rfl h0 hk ‹_› h)
 .rename_i hne;exact λh=>hne h.1
theorem Zcn {n:Int}{o:Op} (h:Zhf n o) (st:GSt):Zbm n st o=(st.1,st.2 ++ [o]):=by unfold Zbm;exact (if_neg h)
theorem Zs7 {st:GSt} (h:Has1 st):st.2≠[]:=by
 obtain ⟨gs,g⟩:=st;cases gs with
 | nil=>exact h
 | cons x r=>exact h.2
theorem Zmy {n:Int}{o p:Op}{l:List Op} (ho:Zhf n o) (hp:Zhf n p):Gf n (o :: (l ++ [p]))=(l.foldl (Zbm n) ([],[o])).1 ++ [(l.foldl (Zbm n) ([],[o])).2 ++ [p]]:=by
 have h1:Has1 (l.foldl (Zbm n) ([],[o])):=(Zhz n id l ([],[o]) (by show [o]≠[];nofun)).2;have e:(o :: (l ++ [p])).foldl (Zbm n) ([],[])=((l.foldl (Zbm n) ([],[o])).1,(l.foldl (Zbm n) ([],[o])).2 ++ [p]):=by rw[List.foldl_cons,List.foldl_append,Zcn ho,List.foldl_cons,List.foldl_nil,Zcn hp];rfl
 unfold Gf;rw[e];dsimp only;rw[if_neg];rintro (h | ⟨h,_⟩)
 .simp at h
 .rw [List.length_append,List.length_singleton]at h;exact Zs7 h1 (List.length_eq_zero_iff.mp (by (exact F10 0x476667060 0x101110 rfl h)))
theorem Zrn {n k:Int} (h0 : 0<=k) (hk:k<=n) (ops:List Op):Gf n (Zbf k ops)=Zng k (Gf n (Zbf n ops)):=by
 have hm:imin k n=k:=by unfold imin;exact (if_neg (by (exact F02 0x78728780 0x11 rfl hk)))
 cases ops with
 | nil=>rfl
 | cons o l=>
  rcases List.eq_nil_or_concat l with e | ⟨l',p,e⟩
  .subst e;rw[keptC_one,keptC_one];have e1:∀ o':Op,Zhf n o'->Gf n [o']=if o'.1 = "equal" then [] else [[o']]:=λo' hs=>by
    unfold Gf;rw[List.foldl_cons,List.foldl_nil,Zcn hs];dsimp only;by_cases h:o'.1 = "equal"
    .rw [if_pos (.inr ⟨rfl,by exact congrArg _ h⟩),if_pos h]
    .rw [if_neg (by simp[h]),if_neg h];rfl
   have ht:∀ j,(hT j o).1=o.1:=λj=>by unfold hT;split <;> rfl
   rw[e1 _ (Zem h0 hk o),e1 _ (Zem (Int.le_trans h0 hk) (Int.le_refl _) o),ht,ht];by_cases h:o.1 = "equal"
   .rw [if_pos h,if_pos h];rfl
   .rw [if_neg h,if_neg h];have i1:∀ j,hT j o=o:=λj=>by unfold hT;exact (if_neg h)
    have i2:∀ j,lT j o=o:=λj=>by unfold lT;exact (if_neg h)
    rw[i1,i1];show _=lsG (lT k) [[hT k o]];rw[i1];show _=lsG (lT k) ([] ++ [[] ++ [o]]);rw[lsG_snoc,i2];rfl
  .rw [List.concat_eq_append]at e;subst e;rw[keptC_more,keptC_more,Zmy (Zem h0 hk o) (Zfx h0 hk p),Zmy (Zem (Int.le_trans h0 hk) (Int.le_refl _) o) (Zfx (Int.le_trans h0 hk) (Int.le_refl _) p)];have eo:hT k o=hT k (hT n o):=by rw[hT_hT,hm]
   have ep:lT k p=lT k (lT n p):=by rw[Zsy,hm]
   have f:=Zhz n (hT k) l' ([],[hT n o]) (by show [hT n o]≠[];nofun);unfold Zng;rw[Zs6 _ _ f.2,lsG_snoc,<-f.1,eo,ep];rfl
noncomputable def oD (o:Op):PyData:=.tuple [.str (S o.1),.int o.2.1,.int o.2.2.1,.int o.2.2.2.1,.int o.2.2.2.2]
noncomputable def gD (g:List Op):PyData:=.list (g.map oD)
section
variable {L:Addr}
theorem Zf6:∀ g:List Op,RDs B hp L (g.map oAV) (g.map oD)
 | []=>.nil
 | _ :: g=>.cons (.tup (.cons (.str _) (.cons (.int _) (.cons (.int _) (.cons (.int _) (.cons (.int _) .nil)))))) (Zf6 g)
theorem Zbv:∀ {ys:List Addr}{gs:List (List Op)},Ls hp ys gs->(∀ y ∈ ys,y≠L)->RDs B hp L (ys.map .ref) (gs.map gD)
 | [],gs,x,_=>by
  have:=x.1;cases gs with
  | nil=>exact .nil
  | cons _ _=>nomatch this
 | y :: ys,gs,x,hL=>by
  cases gs with
  | nil=>have:=x.1;nomatch this
  | cons g gs=>
   refine .cons (.list (.own (x.2 0 y g rfl rfl) (hL y (by simp))) (Zf6 g)) (Zbv ⟨by have:=x.1;simpa using this,λi z g hz hg=>x.2 (i + 1) z g (by simpa using hz) (by simpa using hg)⟩ λz hz=>hL z (by simp[hz]))
theorem Zkq (x:String):PyData.strOk (S x)=true:=by
 show PyData.strOk (PySem.Str.ofString x)=true;rw[PySem.Str.ofString_eq_byList];delta PySem.Str.ofStringByList PyData.strOk;simp only[List.all_toArray,List.all_eq_true,List.mem_map,decide_eq_true_eq];rintro c ⟨ch,_,rfl⟩;have:=ch.valid;show ch.val.toNat < 0x110000;rcases this with h | h
 .have:ch.val.toNat < 0xd800:=h
  (exact Nat.le_trans ‹_› (by decide))
 .exact h.2
theorem Zbi (gs:List (List Op)):SeqAt.shaped (.list (gs.map gD))=true:=by
 have h1:∀ g:List Op,PyData.canLayAll0 (g.map oD)=true:=by
  intro g;induction g with
  | nil=>rfl
  | cons b bl ih=>simp only[List.map_cons,PyData.canLayAll0,ih,Bool.and_true];simp[oD,PyData.canLay0,PyData.canLayAll0,Zkq]
 have h2:∀ g:List Op,PyData.depthAll (g.map oD)<=2:=by
  intro g;induction g with
  | nil=>decide
  | cons b bl ih=>
   simp only[List.map_cons,PyData.depthAll];have:(oD b).depth<=2:=by simp[oD,PyData.depth,PyData.depthAll]
   lia
 have h3:∀ gs:List (List Op),PyData.canLayAll0 (gs.map gD)=true:=by
  intro g;induction g with
  | nil=>rfl
  | cons b bl ih=>simp only[List.map_cons,PyData.canLayAll0,ih,Bool.and_true];dsimp only[gD,PyData.canLay0];exact h1 b
 have h4:∀ gs:List (List Op),PyData.depthAll (gs.map gD)<=3:=by
  intro g;induction g with
  | nil=>decide
  | cons b bl ih=>
   simp only[List.map_cons,PyData.depthAll];have:(gD b).depth<=3:=by dsimp only[gD,PyData.depth];have:=h2 b;(exact Nat.lt_of_le_of_lt ‹_› (by decide))
   lia
 simp only[SeqAt.shaped,PyData.canLay0,h3,Bool.true_and,PyData.depth];have:=h4 gs;exact decide_eq_true (by (exact Nat.lt_of_le_of_lt ‹_› (by decide)))
theorem Zcw (gs:List (List Op)):(PyData.list (gs.map gD)).eqv (.list (gs.map gD))=true:=by
 have h1:∀ g:List Op,PyData.eqvAll (g.map oD) (g.map oD)=true:=by
  intro g;induction g with
  | nil=>rfl
  | cons o g ih=>simp only[List.map_cons,PyData.eqvAll,ih,Bool.and_true];simp[oD,PyData.eqv,PyData.eqvAll]
 have h2:∀ gs:List (List Op),PyData.eqvAll (gs.map gD) (gs.map gD)=true:=by
  intro g;induction g with
  | nil=>rfl
  | cons o g ih=>simp only[List.map_cons,PyData.eqvAll,ih,Bool.and_true];dsimp only[gD,PyData.eqv];exact h1 o
 simp only[PyData.eqv];exact h2 gs

noncomputable def trS (i:Nat):Stmt:=(Za7 (topS PW 7)).getD i (.Pass ⟨0,0,0,0⟩)
noncomputable def hL (k:Int) (o:Op):Op:=if o.1 = "equal" then (o.1,o.2.1 + imax (o.2.2.1 - o.2.1 - k) 0,o.2.2.1,o.2.2.2.1 + imax (o.2.2.1 - o.2.1 - k) 0,o.2.2.2.2) else o
noncomputable def lL (k:Int) (o:Op):Op:=if o.1 = "equal" then (o.1,o.2.1,o.2.2.1 - imax (o.2.2.1 - o.2.1 - k) 0,o.2.2.2.1,o.2.2.2.2 - imax (o.2.2.1 - o.2.1 - k) 0) else o
noncomputable def Even (o:Op):Prop:=o.1 = "equal" -> o.2.2.1 - o.2.1=o.2.2.2.2 - o.2.2.2.1
theorem Zuk {k:Int}{o:Op} (h:Even o):hL k o=hT k o:=by
 obtain ⟨t,i1,i2,j1,j2⟩:=o;delta hL hT;by_cases e:t = "equal"
 .have:=h e;dsimp only at this;simp only[e,if_true,Prod.mk.injEq,true_and,and_true];unfold imax;refine ⟨?_,?_⟩ <;> split <;> split <;> lia
 .simp [e]
theorem Zug {k:Int}{o:Op} (h:Even o):lL k o=lT k o:=by
 obtain ⟨t,i1,i2,j1,j2⟩:=o;delta lL lT;by_cases e:t = "equal"
 .have:=h e;dsimp only at this;simp only[e,if_true,Prod.mk.injEq,true_and,and_true];delta imax imin;refine ⟨?_,?_⟩ <;> split <;> split <;> lia
 .simp [e]
end
section
variable {A:Around}{E:ET}{B:Shared}{m:Loc}{hp:Hp} {L dA y0:Addr}{ys:List Addr}{k:Int}{rest:List Stmt}{KK:QX}
noncomputable abbrev trB (i:Nat):Stmt:=(kids (trS 1)).getD i (.Pass ⟨0,0,0,0⟩)
theorem Znh {o:Op}{g:List Op} (G:Gnd (KW W0) B) (hh:A.handled=none) (h1:m (S "due")=some (.ref dA)) (h2:m (S "least")=some (.int k)) (hd:hp dA=some (.list ((y0 :: ys).map .ref))) (hdL:dA≠L) (hy:hp y0=some (.list ((o :: g).map oAV))) (hyL:y0≠L)
  (hK:∀ m',m' (S "due")=some (.ref dA)->m' (S "least")=some (.int k)->EXs (model PW W0) A E B (callEnv Zao L 251) rest m' (hp.set y0 (.list ((hL k o :: g).map oAV))) KK) :
  EXs (model PW W0) A E B (callEnv Zao L 251) (trB 0 :: trB 1 :: trB 2 :: rest) m hp KK:=by
 obtain ⟨t,i1,i2,j1,j2⟩:=o;have ld:Lst B hp L dA ((y0 :: ys).map .ref):=.own hd hdL;have lo:Lst B hp L y0 (((t,i1,i2,j1,j2) :: g).map oAV):=.own hy hyL;refine Zac (Zbj (Zam (Zam (Zaa h1 (Zal (Zay ld (by decide) (by decide) (x:=.ref y0) rfl ?_))))));refine Zal ?_;refine Zay lo (by decide) (by decide) (x:=oAV (t,i1,i2,j1,j2)) rfl ?_;refine Zbh hh rfl rfl rfl (Zak (Zai (Zak (Zai (Zak (Zai (Zak (Zai (Zak (Zai (Zas ?_)))))))))))
 try dsimp only
 generalize hm1:upd (upd (upd (upd (upd m _ _) _ _) _ _) _ _) _ _=m1;have g1:m1 (S "tag")=some (.str (S t)):=by subst hm1;(rfl)
 have g2:m1 (S "i1")=some (.int i1):=by subst hm1;(rfl)
 have g3:m1 (S "i2")=some (.int i2):=by subst hm1;(rfl)
 have g4:m1 (S "j1")=some (.int j1):=by subst hm1;(rfl)
 have g5:m1 (S "j2")=some (.int j2):=by subst hm1;(rfl)
 have g6:m1 (S "due")=some (.ref dA):=by subst hm1;(assumption)
 have g7:m1 (S "least")=some (.int k):=by subst hm1;(assumption)
 clear hm1 h1 h2;have fin:∀ gone:Int,(t,i1 + gone,i2,j1 + gone,j2)=hL k (t,i1,i2,j1,j2)->∀ m2,m2=upd m1 (S "gone") (.int gone)->EXs (model PW W0) A E B (callEnv Zao L 251) (trB 2 :: rest) m2 hp KK:=λgone hg m2 hm2=>by
  have a1:m2 (S "tag")=some (.str (S t)):=by subst hm2;(assumption)
  have a2:m2 (S "i1")=some (.int i1):=by subst hm2;(assumption)
  have a3:m2 (S "i2")=some (.int i2):=by subst hm2;(assumption)
  have a4:m2 (S "j1")=some (.int j1):=by subst hm2;(assumption)
  have a5:m2 (S "j2")=some (.int j2):=by subst hm2;(assumption)
  have a6:m2 (S "due")=some (.ref dA):=by subst hm2;(assumption)
  have a7:m2 (S "least")=some (.int k):=by subst hm2;(assumption)
  have a8:m2 (S "gone")=some (.int gone):=by subst hm2;(rfl)
  clear hm2;refine Zac (Zc8 (Zar (Zab (Zaa a1 (Zab (Zag (Zaa a2 (Zaa a8 (Zav ?_)))))))));refine Zab (Zaa a3 (Zab (Zag (Zaa a4 (Zaa a8 (Zav (Zab (Zaa a5 (Zae ⟨sz rfl,?_⟩)))))))));refine Zer (Zam (Zaa a6 (Zal (Zay ld (by decide) (by decide) (x:=.ref y0) rfl (Zal ?_)))));refine ⟨y0,_,0,rfl,rfl,hy,hyL,.inr ⟨by decide,by simp,by decide⟩,?_⟩;have es:stored (((t,i1,i2,j1,j2) :: g).map oAV) 0 (.tup [.str (S t),.int (i1 + gone),.int i2,.int (j1 + gone),.int j2])=(hL k (t,i1,i2,j1,j2) :: g).map oAV:=by refine hg▸?_;rfl
  refine es▸?_;exact hK m2 a6 a7
 refine Zac (Zan (Zeq (Zad (Zaa g1 (Zbw (Zfk (Zaj ?_)))))));rw[Zc1];by_cases e:t = "equal"
 .refine Zbr e ?_;refine Zau (Zax G (Zfc W0) Zd1 (by decide) (λ_=>Zb2) ⟨rfl,Zab (Zag (Zag (Zaa g3 (Zaa g2 (Zbe (Zaa g7 (Zbe (Zab (Zal (Zae (Zfm hh ?_)))))))))))⟩);refine fin _ ?_ _ rfl;unfold hL;exact (if_pos e).symm
 .refine Zbs e ?_;refine Zal ?_;refine fin 0 ?_ _ rfl;unfold hL;rw[if_neg e,Int.add_zero,Int.add_zero]
theorem Zqe {o:Op}{g:List Op} (G:Gnd (KW W0) B) (hh:A.handled=none) (h1:m (S "due")=some (.ref dA)) (h2:m (S "least")=some (.int k)) (hd:hp dA=some (.list ((ys ++ [y0]).map .ref))) (hdL:dA≠L) (hy:hp y0=some (.list ((g ++ [o]).map oAV))) (hly:ys.length<=2000) (hlg:g.length<=2000) (hyL:y0≠L)
  (hK:∀ m',m' (S "due")=some (.ref dA)->m' (S "least")=some (.int k)->EXs (model PW W0) A E B (callEnv Zao L 251) rest m' (hp.set y0 (.list ((g ++ [lL k o]).map oAV))) KK) :
  EXs (model PW W0) A E B (callEnv Zao L 251) (trB 3 :: trB 4 :: trB 5 :: rest) m hp KK:=by
 refine hide λ_ Z=>?_;obtain ⟨t,i1,i2,j1,j2⟩:=o;apply Z;clear Z;have ld:Lst B hp L dA ((ys ++ [y0]).map .ref):=.own hd hdL;have lo:Lst B hp L y0 ((g ++ [(t,i1,i2,j1,j2)]).map oAV):=.own hy hyL;have q1:((ys ++ [y0]).map AV.ref)[(-1 + (((ys ++ [y0]).map AV.ref).length:Int)).toNat]?=some (.ref y0):=by rw[List.length_map,List.length_append,List.length_singleton,show (-1 + ((ys.length + 1:Nat):Int)).toNat=ys.length from by (exact F10 0x8766703604103a 0x101110110101 rfl),List.getElem?_map,List.getElem?_append_right (Nat.le_refl _),Nat.sub_self];rfl
 have q2:((g ++ [((t,i1,i2,j1,j2):Op)]).map oAV)[(-1 + (((g ++ [((t,i1,i2,j1,j2):Op)]).map oAV).length:Int)).toNat]?=some (oAV (t,i1,i2,j1,j2)):=by rw[List.length_map,List.length_append,List.length_singleton,show (-1 + ((g.length + 1:Nat):Int)).toNat=g.length from by (exact F10 0x8766703604103a 0x101110110101 rfl),List.getElem?_map,List.getElem?_append_right (Nat.le_refl _),Nat.sub_self];rfl
 refine Zac (Zbj (Zam (Zam (Zaa h1 (Zds (Zal ⟨1,rfl,Zca ld (by decide) (by decide) (by simp;(exact F10 0x673068 0x1 rfl)) q1 ?_⟩))))));refine Zds (Zal ⟨1,rfl,Zca lo (by decide) (by decide) (by simp;(exact F10 0x673068 0x1 rfl)) q2 ?_⟩);refine Zbh hh rfl rfl rfl (Zak (Zai (Zak (Zai (Zak (Zai (Zak (Zai (Zak (Zai (Zas ?_)))))))))))
 try dsimp only
 generalize hm1:upd (upd (upd (upd (upd m _ _) _ _) _ _) _ _) _ _=m1;have g1:m1 (S "tag")=some (.str (S t)):=by subst hm1;(rfl)
 have g2:m1 (S "i1")=some (.int i1):=by subst hm1;(rfl)
 have g3:m1 (S "i2")=some (.int i2):=by subst hm1;(rfl)
 have g4:m1 (S "j1")=some (.int j1):=by subst hm1;(rfl)
 have g5:m1 (S "j2")=some (.int j2):=by subst hm1;(rfl)
 have g6:m1 (S "due")=some (.ref dA):=by subst hm1;(assumption)
 have g7:m1 (S "least")=some (.int k):=by subst hm1;(assumption)
 clear hm1 h1 h2;have fin:∀ gone:Int,(t,i1,i2 - gone,j1,j2 - gone)=lL k (t,i1,i2,j1,j2)->∀ m2,m2=upd m1 (S "gone") (.int gone)->EXs (model PW W0) A E B (callEnv Zao L 251) (trB 5 :: rest) m2 hp KK:=λgone hg m2 hm2=>by
  have a1:m2 (S "tag")=some (.str (S t)):=by subst hm2;(assumption)
  have a2:m2 (S "i1")=some (.int i1):=by subst hm2;(assumption)
  have a3:m2 (S "i2")=some (.int i2):=by subst hm2;(assumption)
  have a4:m2 (S "j1")=some (.int j1):=by subst hm2;(assumption)
  have a5:m2 (S "j2")=some (.int j2):=by subst hm2;(assumption)
  have a6:m2 (S "due")=some (.ref dA):=by subst hm2;(assumption)
  have a7:m2 (S "least")=some (.int k):=by subst hm2;(assumption)
  have a8:m2 (S "gone")=some (.int gone):=by subst hm2;(rfl)
  clear hm2;refine Zac (Zc8 (Zar (Zab (Zaa a1 (Zab (Zaa a2 (Zab (Zag (Zaa a3 (Zaa a8 (Zbe ?_)))))))))));refine Zab (Zaa a4 (Zab (Zag (Zaa a5 (Zaa a8 (Zbe (Zae ⟨sz rfl,?_⟩)))))));refine Zer (Zam (Zaa a6 (Zds (Zal ⟨1,rfl,Zca ld (by decide) (by decide) (by simp;lia) q1 (Zds (Zal ⟨1,rfl,?_⟩))⟩))));refine ⟨y0,_,-1,rfl,rfl,hy,hyL,.inl ⟨rfl,by simp⟩,?_⟩;have es:stored ((g ++ [(t,i1,i2,j1,j2)]).map oAV) (-1) (.tup [.str (S t),.int i1,.int (i2 - gone),.int j1,.int (j2 - gone)])=(g ++ [lL k (t,i1,i2,j1,j2)]).map oAV:=by refine hg▸?_;simp[stored,oAV]
  refine es▸?_;exact hK m2 a6 a7
 refine Zac (Zan (Zeq (Zad (Zaa g1 (Zbw (Zfk (Zaj ?_)))))));rw[Zc1];by_cases e:t = "equal"
 .refine Zbr e ?_;refine Zau (Zax G (Zfc W0) Zd1 (by decide) (λ_=>Zb2) ⟨rfl,Zab (Zag (Zag (Zaa g3 (Zaa g2 (Zbe (Zaa g7 (Zbe (Zab (Zal (Zae (Zfm hh ?_)))))))))))⟩);refine fin _ ?_ _ rfl;unfold lL;exact (if_pos e).symm
 .refine Zbs e ?_;refine Zal ?_;refine fin 0 ?_ _ rfl;unfold lL;rw[if_neg e,Int.sub_zero,Int.sub_zero]
end
theorem Zdz (d:PyData) (ds:List PyData):PyData.eqv (.list (d :: ds)) (.list [])=false:=by simp[PyData.eqv,PyData.eqvAll]
theorem Zl2:PyData.eqv (.list []) (.list [])=true:=by rfl
theorem Zd7 (g:List Op):SeqAt.shaped (.list (g.map oD))=true:=by
 have h1:∀ g:List Op,PyData.canLayAll0 (g.map oD)=true:=by
  intro g;induction g with
  | nil=>rfl
  | cons b bl ih=>simp only[List.map_cons,PyData.canLayAll0,ih,Bool.and_true];simp[oD,PyData.canLay0,PyData.canLayAll0,Zkq]
 have h2:∀ g:List Op,PyData.depthAll (g.map oD)<=2:=by
  intro g;induction g with
  | nil=>decide
  | cons b bl ih=>
   simp only[List.map_cons,PyData.depthAll];have:(oD b).depth<=2:=by simp[oD,PyData.depth,PyData.depthAll]
   lia
 simp only[SeqAt.shaped,PyData.canLay0,h1,Bool.true_and,PyData.depth];have:=h2 g;exact decide_eq_true (by (exact Nat.lt_of_le_of_lt ‹_› (by decide)))
noncomputable def Zdu (k:Int) (gs:List (List Op)):List (List Op):=if gs=[]\/gs.head?=some [] then gs else lsG (lL k) (hdG (hL k) gs)
section
variable {A:Around}{E:ET}{B:Shared}{m:Loc}{hp:Hp}{L dA:Addr}{ys:List Addr}{gs:List (List Op)}{k:Int}{KK:QX}
theorem Ls.set1 {hp:Hp}{ys:List Addr}{gs:List (List Op)}{i:Nat}{y:Addr}{g':List Op} (h:Ls hp ys gs) (nd:ys.Nodup) (hy:ys[i]?=some y):Ls (hp.set y (.list (g'.map oAV))) ys (gs.set i g'):=by
 refine ⟨by rw[List.length_set];exact h.1,λj z g hz hg=>?_⟩;by_cases e:i=j
 .subst e;rw[hy]at hz;cases hz;have hl:i < gs.length:=by refine h.1▸?_;exact (List.getElem?_eq_some_iff.mp hy).1
  rw[List.getElem?_set_self hl]at hg;cases hg;exact Hp.ss ..
 .rw [List.getElem?_set_ne e]at hg
  have hzy:z≠y:=λq=>e (by
   subst q;obtain ⟨a1,b1⟩:=List.getElem?_eq_some_iff.mp hy;obtain ⟨a2,b2⟩:=List.getElem?_eq_some_iff.mp hz
   exact (List.getElem_inj (h₀:=a1) (h₁:=a2) nd).mp (by rw[b1,b2]))
  rw[Hp.sn _ _ hzy];exact h.2 j z g hz hg
theorem Zr8 (G:Gnd (KW W0) B) (hu:A.units + 64 < cLine) (h1:m (S "due")=some (.ref dA)) (hd:hp dA=some (.list (ys.map .ref))) (hdL:dA≠L) (ls:Ls hp ys gs) (yL:∀ y ∈ ys,y≠L) (no:gs=[]\/gs.head?=some [])
  (hK:∀ hp',Hp.Le hp hp'->KK .next m hp'):EX (model PW W0) A E B (callEnv Zao L 251) (trS 1) m hp KK:=by
 refine Za5 (Zaz (Zah (Zad (Zaa h1 (Za4 (Zae ⟨Nat.zero_le _,λe he heL=>?_⟩))))));have le1:Hp.Le hp (hp.set e (.list [])):=(Hp.Le.refl hp).set he _;have ls1:Ls (hp.set e (.list [])) ys gs:=⟨ls.1,λi y g hy hg=>le1 _ _ (ls.2 i y g hy hg)⟩;refine Zfi (.list (.own (le1 _ _ hd) hdL) (Zbv ls1 yL)) (.list (.own (Hp.ss ..) heL) .nil) (Zbi _) rfl hu (Zaj ?_);generalize hp.set e (.list [])=hp1 at *;cases gs with
 | nil=>
  refine Zbl (show (!(PyData.list (List.map gD [])).eqv (PyData.list []))=false from by rw[List.map_nil,Zl2];rfl) ?_;exact if_f (Zaf (hK _ le1))
 | cons g gr=>
  have hg:g=[]:=by
   rcases no with h | h
   .cases h
   .exact Option.some.inj h
  subst hg;refine Zbq (show (!(PyData.list (List.map gD ([] :: gr))).eqv (PyData.list []))=true from by rw[List.map_cons,Zdz];rfl) ?_;cases ys with
  | nil=>have:=ls.1;cases this
  | cons y yr=>
   refine Zah (Zad (Zam (Zaa h1 (Zal (Zay (.own (le1 _ _ hd) hdL) (by decide) (by decide) (x:=.ref y) rfl (Za4 (Zae ⟨Nat.zero_le _,λe2 he2 he2L=>?_⟩)))))));have le2:=(Hp.Le.refl hp1).set he2 (.list []);have hy:(hp1.set e2 (.list [])) y=some (.list (([]:List Op).map oAV)):=le2 _ _ (ls1.2 0 y [] rfl rfl);refine Zfi (.list (.own hy (yL y (.head _))) (Zf6 [])) (.list (.own (Hp.ss ..) he2L) .nil) (Zd7 _) rfl hu (Zaj ?_);refine Zbl (show (!(PyData.list (List.map oD [])).eqv (PyData.list []))=false from by rw[List.map_nil,Zl2];rfl) ?_;exact if_f (Zaf (hK _ (le1.trans le2)))
theorem Zr7 {y:Addr}{yr:List Addr}{o:Op}{g:List Op}{gr:List (List Op)} (G:Gnd (KW W0) B) (hh:A.handled=none) (hu:A.units + 64 < cLine) (h1:m (S "due")=some (.ref dA)) (h2:m (S "least")=some (.int k)) (hd:hp dA=some (.list ((y :: yr).map .ref))) (hdL:dA≠L) (ls:Ls hp (y :: yr) ((o :: g) :: gr)) (yL:∀ z ∈ y :: yr,z≠L) (nd:(y :: yr).Nodup) (dn:dA ∉ y :: yr)
  (hl:yr.length<=1000) (hne:∀ g ∈ gr,g≠[]) (hgl:∀ x ∈ (o :: g) :: gr,x.length<=2000)
  (hK:∀ m' hp',m' (S "due")=some (.ref dA)->hp' dA=some (.list ((y :: yr).map .ref))->Ls hp' (y :: yr) (lsG (lL k) (hdG (hL k) ((o :: g) :: gr)))->(∀ z o,z ∉ y :: yr->hp z=some o->hp' z=some o)->KK .next m' hp'):EX (model PW W0) A E B (callEnv Zao L 251) (trS 1) m hp KK:=by
 refine Za5 (Zaz (Zah (Zad (Zaa h1 (Za4 (Zae ⟨Nat.zero_le _,λe he heL=>?_⟩))))));have le1:Hp.Le hp (hp.set e (.list [])):=(Hp.Le.refl hp).set he _;have ls1:Ls (hp.set e (.list [])) (y :: yr) ((o :: g) :: gr):=⟨ls.1,λi y g hy hg=>le1 _ _ (ls.2 i y g hy hg)⟩;refine Zfi (.list (.own (le1 _ _ hd) hdL) (Zbv ls1 yL)) (.list (.own (Hp.ss ..) heL) .nil) (Zbi _) rfl hu (Zaj ?_);generalize hp.set e (.list [])=hp1 at *;refine Zbq (show (!(PyData.list (List.map gD ((o :: g) :: gr))).eqv (PyData.list []))=true from by rw[List.map_cons,Zdz];rfl) ?_;refine Zah (Zad (Zam (Zaa h1 (Zal (Zay (.own (le1 _ _ hd) hdL) (by decide) (by decide) (x:=.ref y) rfl (Za4 (Zae ⟨Nat.zero_le _,λe2 he2 he2L=>?_⟩)))))));have le2:=(Hp.Le.refl hp1).set he2 (.list []);have hy:(hp1.set e2 (.list [])) y=some (.list ((o :: g).map oAV)):=le2 _ _ (ls1.2 0 y (o :: g) rfl rfl);refine Zfi (.list (.own hy (yL y (.head _))) (Zf6 (o :: g))) (.list (.own (Hp.ss ..) he2L) .nil) (Zd7 _) rfl hu (Zaj ?_);refine Zbq (show (!(PyData.list (List.map oD (o :: g))).eqv (PyData.list []))=true from by rw[List.map_cons,Zdz];rfl) ?_;refine Zat (if_t ?_);have ls2:Ls (hp1.set e2 (.list [])) (y :: yr) ((o :: g) :: gr):=⟨ls.1,λi y g hy hg=>le2 _ _ (ls1.2 i y g hy hg)⟩;have hd2:=le2 _ _ (le1 _ _ hd);have le12:=le1.trans le2;generalize hp1.set e2 (.list [])=hp2 at *;show EXs _ _ _ _ _ [trB 0,trB 1,trB 2,trB 3,trB 4,trB 5] _ _ _;refine Znh G hh h1 h2 hd2 hdL hy (yL y (.head _)) λm3 f1 f2=>?_;have ls3:Ls (hp2.set y (.list ((hL k o :: g).map oAV))) (y :: yr) ((hL k o :: g) :: gr):=ls2.set1 (i:=0) nd rfl;have dy:dA≠y:=λe=>dn (e ▸ .head _);have hd3:(hp2.set y (.list ((hL k o :: g).map oAV))) dA=some (.list ((y :: yr).map .ref)):=Hp.snt dy hd2;have keep3:∀ z o',z ∉ y :: yr->hp z=some o'->(hp2.set y (.list ((hL k o :: g).map oAV))) z=some o':=λz o' hz e=>Hp.snt (λh=>hz (h ▸ .head _)) (le12 _ _ e);generalize hp2.set y (.list ((hL k o :: g).map oAV))=hp3 at *;have hlen:∀ x ∈ (hL k o :: g) :: gr,x.length<=2000/\x≠[]:=λx hx=>by
  rcases List.mem_cons.mp hx with rfl | hx
  .exact ⟨by have:=hgl (o :: g) (.head _);simpa using this,by nofun⟩
  .exact ⟨hgl x (.tail _ hx),hne x hx⟩
 have hhd:hdG (hL k) ((o :: g) :: gr)=(hL k o :: g) :: gr:=rfl;replace hK:=hhd▸hK;clear hhd ls ls1 ls2 hy hd hd2;have hyl:(y :: yr).length<=2000:=by dsimp only[List.length_cons];(exact Nat.lt_of_le_of_lt ‹_› (by decide))
 generalize (hL k o :: g) :: gr=gs2 at *;have hne2:y :: yr≠[]:=by nofun
 generalize y :: yr=ys at *;rcases List.eq_nil_or_concat ys with e | ⟨yi,yl,e⟩
 .exact absurd e hne2
 rw[List.concat_eq_append]at e;subst e;rcases List.eq_nil_or_concat gs2 with e | ⟨gi,gl,e⟩
 .subst e;have:=ls3.1;simp at this
 rw[List.concat_eq_append]at e;subst e;have hgi:gi.length=yi.length:=by have:=ls3.1;simp at this;exact this.symm
 have hgl2:=hlen gl (by simp);rcases List.eq_nil_or_concat gl with e | ⟨gp,ol,e⟩
 .exact absurd e hgl2.2
 rw[List.concat_eq_append]at e;subst e;have hyi:(yi ++ [yl])[yi.length]?=some yl:=by rw[List.getElem?_append_right (Nat.le_refl _),Nat.sub_self];rfl
 have hgi2:(gi ++ [gp ++ [ol]])[yi.length]?=some (gp ++ [ol]):=by rw[<-hgi,List.getElem?_append_right (Nat.le_refl _),Nat.sub_self];rfl
 have hyl3:=ls3.2 yi.length yl _ hyi hgi2;refine Zqe G hh f1 f2 hd3 hdL hyl3 (by simp at hyl;(exact Nat.le_trans ‹_› (by decide))) (by have:=hgl2.1;simp at this;(exact Nat.le_trans ‹_› (by decide))) (yL yl (by simp)) λm4 g1 g2=>Zaf (hK _ _ g1 (Hp.snt (λe=>dn (by simp[e])) hd3) ?_ λz o' hz e=>Hp.snt (λh=>hz (by simp[h])) (keep3 z o' hz e));rw[lsG_snoc];have x:=ls3.set1 (i:=yi.length) (g':=gp ++ [lL k ol]) nd hyi;rw[show (gi ++ [gp ++ [ol]]).set yi.length (gp ++ [lL k ol])=gi ++ [gp ++ [lL k ol]] from by refine hgi▸?_;simp]at x;exact x
end
section
variable {A:Around}{E:ET}{B:Shared}{m:Loc}{hp:Hp}{L gA:Addr}{ys:List Addr}{gs:List (List Op)}{KK:QX}
theorem Zni (G:Gnd (KW W0) B) (hh:A.handled=none) (h1:m (S "groups")=some (.ref gA)) (hd:hp gA=some (.list (ys.map .ref))) (hdL:gA≠L) (hp0:hp L=none) (ls:Ls hp ys gs) (yL:∀ y ∈ ys,y≠L) (hl:ys.length<=4000) (hgl:∀ g ∈ gs,g.length<=2000)
  (hK:∀ dA zs hp',hp dA=none->dA≠L->hp' dA=some (.list (zs.map .ref))->Ls hp' zs gs->(∀ z ∈ zs,hp z=none/\z≠L/\z≠dA)->zs.Nodup->Hp.Le hp hp'->KK .next (upd m (S "due") (.ref dA)) hp') :
  EX (model PW W0) A E B (callEnv Zao L 251) (trS 0) m hp KK:=by
 refine Ze7 (cl:=[]) hh rfl (by decide) (by decide) (Zaa h1 ⟨gA,ys.map .ref,rfl,.own hd hdL,by rw[List.length_map];(exact Nat.le_trans ‹_› (by decide)),λit acc C h1 h2 h3 h4 h5 h6 h7 h8 h9=>?_⟩);replace h2:it≠L:=h2;replace h4:acc≠L:=h4;replace h7:C≠L:=h7;have b1:(hp.set L (.ns m)) it=none:=Hp.snt h2 h1;have b2:(hp.set L (.ns m)) acc=none:=Hp.snt h4 h3;let Iq:Nat->List AV->Loc->Hp->Prop:=λi ac _ hp₂=>∃ zs:List Addr,ac=zs.map AV.ref/\Ls hp₂ zs (gs.take i)/\Hp.Le (hp.set L (.ns m)) hp₂/\(∀ z ∈ zs,hp z=none/\z≠L/\z≠it/\z≠acc/\z≠C)/\zs.Nodup;refine ⟨Iq,λob=>⟨[],rfl,⟨by rfl,λi y g hy=>by nomatch hy⟩,((Hp.Le.refl _).set b1 _).set b2 _,by nofun,.nil⟩,λi ac m₂ hp₂ ob x=>?_,λi ac m₂ hp₂ xs x=>?_,λi ac m₂ hp₂ x=>?_,λi x ac m₂ hp₂ ob hx x0 hit hac=>?_,λac m₂ hp₂ x0 hac=>?_⟩
 .refine hide λ_ Z=>?_;refine aI x λzs x1 x2 x3 x4 x5=>?_;apply Z;clear Z;exact ⟨zs,x1,x2.set (λhm=>(x4 it hm).2.2.1 rfl) _,x3.set b1 _,x4,x5⟩
 .refine hide λ_ Z=>?_;refine aI x λzs x1 x2 x3 x4 x5=>?_;apply Z;clear Z;exact ⟨zs,x1,x2.set (λhm=>(x4 acc hm).2.2.2.1 rfl) _,x3.set b2 _,x4,x5⟩
 .refine hide λ_ Z=>?_;refine aI x λzs x1 x2 x3 x4 x5=>?_;apply Z;clear Z;exact .own (x3 _ _ (Hp.snt hdL hd)) (Hp.ne_of hd h6)
 .refine hide λ_ Z=>?_;refine aI x0 λzs x1 x2 x3 x4 x5=>?_;rw[List.getElem?_map]at hx;obtain ⟨y,hy,rfl⟩:=Option.map_eq_some_iff.mp hx;apply Z;clear Z;have hil:i < gs.length:=by refine ls.1▸?_;exact (List.getElem?_eq_some_iff.mp hy).1
  have hgi:gs[i]?=some gs[i]:=List.getElem?_eq_getElem hil;have hyy:hp₂ y=some (.list (gs[i].map oAV)):=x3 _ _ (Hp.snt (yL y (List.mem_of_getElem? hy)) (ls.2 i y _ hy hgi));have hyC:y≠C:=Hp.ne_of (ls.2 i y _ hy hgi) h6;refine Zai (Zo8 (if_t ?_));refine Zge (Zax G (Zfr W0) Zeo (by decide) (λ_=>Zeg) ⟨rfl,Zab (Zaa (v:=.ref y) (by rfl) (Zae (Zjf (.own hyy hyC) (by rw[List.length_map];have:=hgl gs[i] (List.getElem_mem hil);(exact Nat.le_trans ‹_› (by decide))) λc hc hcC=>?_)))⟩);have hci:c≠it:=λe=>by rw[e,hit]at hc;cases hc
  have hca:c≠acc:=λe=>by rw[e,hac]at hc;cases hc
  have hcz:c ∉ zs:=x2.fresh hc;have hcL:c≠L:=λe=>by have:=x3 L _ (Hp.ss ..);rw[<-e,hc]at this;cases this
  have hc0:hp c=none:=Hp.snr hcL (x3.none hc);refine ⟨⟨zs ++ [c],by rw[x1];simp,?_,x3.set (x3.none hc) _,λz hz=>?_,?_⟩,Hp.snt hci.symm hit,Hp.snt hca.symm hac⟩
  .rw [List.take_add_one,hgi];exact (x2.set hcz _).snoc (Hp.ss ..)
  .rcases List.mem_append.mp hz with hz | hz
   .exact x4 z hz
   .rw [List.mem_singleton]at hz;subst hz;exact ⟨hc0,hcL,hci,hca,hcC⟩
  .exact List.nodup_append.mpr ⟨x5,by simp,λa ha b hb e=>by rw[List.mem_singleton]at hb;subst hb;exact hcz (e ▸ ha)⟩
 .refine hide λ_ Z=>?_;refine aI x0 λzs x1 x2 x3 x4 x5=>?_;apply Z;clear Z;rw[List.length_map,ls.1,List.take_length]at x2;have cut:∀ z,z≠L->z≠C->z≠it->(if z=L\/z=C\/z=it then none else hp₂ z)=hp₂ z:=λz a b c=>by
   rw[if_neg];rintro (h | h | h)
   .exact a h
   .exact b h
   .exact c h
  refine ⟨λz=>if z=L\/z=C\/z=it then none else hp₂ z,λz o hz=>?_,by simp,hK acc zs _ h3 h4 (by rw[cut acc h4 h9.symm h5,hac,x1]) ⟨x2.1,λi y g hy hg=>?_⟩ (λz hz=>⟨(x4 z hz).1,(x4 z hz).2.1,(x4 z hz).2.2.2.1⟩) x5 λz o hz=>?_⟩
  .by_cases hzL:z=L
   .rw [hzL]at hz ⊢;rw[show (callEnv Zao L 251).locals=L from rfl,Hp.ss]at hz;rw[Hp.del_ne _ (Ne.symm h2),x3 L _ (Hp.ss ..)];exact hz
   .rw [show (callEnv Zao L 251).locals=L from rfl,Hp.sn _ _ hzL]at hz;by_cases hzi:z=it
    .simp [hzi]at hz
    .rw [Hp.del_ne _ hzi];by_cases hzC:z=C
     .simp [hzC]at hz
     .rwa [cut z hzL hzC hzi]at hz
  .have hm:=x4 y (List.mem_of_getElem? hy);show (if y=L\/y=C\/y=it then none else hp₂ y)=_;rw[cut y hm.2.1 hm.2.2.2.2 hm.2.2.1];exact x2.2 i y g hy hg
  .have zL:z≠L:=λe=>by rw[e,hp0]at hz;cases hz
   show (if z=L\/z=C\/z=it then none else hp₂ z)=_;rw[cut z zL (Hp.ne_of hz h6) (Hp.ne_of hz h1)];exact x3 _ _ (Hp.snt zL hz)
end
section
variable {gA:Addr}{ys:List Addr}{gs:List (List Op)}{k:Int}
theorem Zkm {L dA:Addr}{zs:List Addr} {m1:Loc} {hp1:Hp}{Q:QX} (G:Gnd (KW W0) B) (hh:A.handled=none) (un:A.units + 64 < cLine) (n1:m1 (S "due")=some (.ref dA)) (n2:m1 (S "least")=some (.int k)) (a2:dA≠L) (a3:hp1 dA=some (.list (zs.map .ref))) (a4:Ls hp1 zs gs) (zL:∀ z ∈ zs,z≠L/\z≠dA) (a6:zs.Nodup)
  (hl:gs.length<=900) (hgl:∀ g ∈ gs,g.length<=2000) (ok:(gs=[]\/gs.head?=some [])\/∀ g ∈ gs,g≠[])
  (fin:∀ m' hp2,m' (S "due")=some (.ref dA)->hp2 dA=some (.list (zs.map .ref))->Ls hp2 zs (Zdu k gs)->(∀ z o,z ∉ zs->hp1 z=some o->hp2 z=some o)->EXs (model PW W0) A E B (callEnv Zao L 251) [trS 2] m' hp2 Q) :
  EXs (model PW W0) A E B (callEnv Zao L 251) [trS 1,trS 2] m1 hp1 Q:=by
 have nothing:(gs=[]\/gs.head?=some [])->EXs (model PW W0) A E B (callEnv Zao L 251) [trS 1,trS 2] m1 hp1 Q:=λno=>by refine Zac (Zr8 G un n1 a3 a2 a4 (λz hz=>(zL z hz).1) no λhp2 le2=>fin m1 hp2 n1 (le2 _ _ a3) ?_ λz o _ e=>le2 _ _ e);rw[show Zdu k gs=gs from by unfold Zdu;exact (if_pos no)];exact ⟨a4.1,λi y g hy hg=>le2 _ _ (a4.2 i y g hy hg)⟩
 rcases ok with no | al
 .exact nothing no
 .cases gs with
  | nil=>exact nothing (.inl rfl)
  | cons g gr=>
   cases g with
   | nil=>exact nothing (.inr rfl)
   | cons o g=>
    cases zs with
    | nil=>have:=a4.1;cases this
    | cons z zr=>
     have hlen:(z :: zr).length<=900:=by rw[a4.1];exact hl
     refine Zac (Zr7 G hh un n1 n2 a3 a2 a4 (λz hz=>(zL z hz).1) a6 (λhm=>(zL dA hm).2 rfl) (by simp at hlen;(exact Nat.le_trans ‹_› (by decide))) (λx hx=>al x (.tail _ hx)) hgl λm2 hp2 c1 c2 c3 c4=>fin m2 hp2 c1 c2 ?_ c4);rw[show Zdu k ((o :: g) :: gr)=lsG (lL k) (hdG (Mine.hL k) ((o :: g) :: gr)) from by unfold Zdu;rw[if_neg (by nofun)]];exact c3
theorem Zij {Q:QV} (G:Gnd (KW W0) B) (hh:A.handled=none) (hu:A.units + 70 < cLine) (hroom:A.depth < recursionLimit) (hd:hp gA=some (.list (ys.map .ref))) (hdL:gA≠env.locals) (ls:Ls hp ys gs) (yL:∀ y ∈ ys,y≠env.locals) (hl:ys.length<=900) (hgl:∀ g ∈ gs,g.length<=2000)
  (ok:(gs=[]\/gs.head?=some [])\/∀ g ∈ gs,g≠[])
  (h:∀ hp' dA zs,hp dA=none->dA≠env.locals->hp' dA=some (.list (zs.map .ref))->Ls hp' zs (Zdu k gs)->(∀ z ∈ zs,hp z=none/\z≠env.locals)->(∀ z o,z≠env.locals->hp z=some o->hp' z=some o)->hp' env.locals=none->Q (.ref dA) hp') :
  CL (model PW W0) A E B env (.ref 251) m [.ref gA,.int k] hp Q:=by
 refine CD.cl (Zdd (bs:=[(S "least",.int k),(S "groups",.ref gA)]) (body:=Za7 (topS PW 7)) G (Zel W0) (by kernel_rfl) rfl hroom (λs vs hv _=>?_) (by kernel_rfl) (by decide) (λL hL hLe=>?_))
 .refine ad (Zbg hv) λv u V h1 h2=>?_;subst V;exact ⟨[(S "groups",v),(S "least",u)],BindsTo.of_eq rfl,rfl,.mk h2 (.mk h1 .nil)⟩
 .have g0:Zaq [(S "least",AV.int k),(S "groups",.ref gA)] (S "groups")=some (.ref gA):=rfl;have g1:Zaq [(S "least",AV.int k),(S "groups",.ref gA)] (S "least")=some (.int k):=rfl;generalize hm0:Zaq [(S "least",AV.int k),(S "groups",.ref gA)]=m0 at g0 g1 ⊢;clear hm0;have hcl:(hp.set env.locals (.ns m)) env.locals=some (.ns m):=Hp.ss ..;have hLc:(hp.set env.locals (.ns m)) L=none:=Hp.snt hLe hL;have hback:∀ z o,z≠env.locals->hp z=some o->(hp.set env.locals (.ns m)) z=some o:=λz o hz e=>Hp.snt hz e;have hbn:∀ z,(hp.set env.locals (.ns m)) z=none->hp z=none/\z≠env.locals:=λz hz=>by
   have:z≠env.locals:=λe=>by rw[e,Hp.ss]at hz;cases hz
   exact ⟨Hp.snr this hz,this⟩
  have ls':Ls (hp.set env.locals (.ns m)) ys gs:=⟨ls.1,λi y g hy hg=>hback _ _ (yL y (List.mem_of_getElem? hy)) (ls.2 i y g hy hg)⟩;have hd':=hback _ _ hdL hd;generalize hp.set env.locals (.ns m)=hb at *;have yL':∀ y ∈ ys,y≠L:=λy hy=>by obtain ⟨g,hg⟩:=ls'.mem hy;exact Hp.ne_of hg hLc
  show EXs _ _ _ _ _ [trS 0,trS 1,trS 2] _ _ _;refine Zac (Zni (A:=A.deeper (callEnv Zao L 251)) G hh g0 hd' (Hp.ne_of hd' hLc) hLc ls' yL' (by (exact Nat.le_trans ‹_› (by decide))) hgl λdA zs hp1 a1 a2 a3 a4 a5 a6 a7=>?_);have fin:∀ m' hp2,m' (S "due")=some (.ref dA)->hp2 dA=some (.list (zs.map .ref))->Ls hp2 zs (Zdu k gs)->(∀ z o,z ∉ zs->hp1 z=some o->hp2 z=some o)->EXs (model PW W0) (A.deeper (callEnv Zao L 251)) (λ_ _=>False) B (callEnv Zao L 251) [trS 2] m' hp2 (RET L env m Q):=λm' hp2 c1 c2 c3 c4=>by
   have c5:∀ z o,hb z=some o->hp2 z=some o:=λz o e=>c4 z o (λhm=>by rw[(a5 z hm).1]at e;cases e) (a7 _ _ e);refine Zac (Zbo (Zaa c1 ?_));have dE:=(hbn dA a1).2;refine Zcs (c5 _ _ hcl) (h _ dA zs (hbn dA a1).1 dE (by rw[Hp.cut_eq dE a2];exact c2) ⟨c3.1,λi y g hy hg=>?_⟩ (λz hz=>hbn z (a5 z hz).1) (λz o hz e=>?_) (by simp[Hp.cut]))
   .have hm:=a5 y (List.mem_of_getElem? hy);rw[Hp.cut_eq (hbn y hm.1).2 hm.2.1];exact c3.2 i y g hy hg
   .have e1:=hback _ _ hz e;rw[Hp.cut_eq hz (Hp.ne_of e1 hLc)];exact c5 _ _ e1
  have n1:(upd m0 (S "due") (.ref dA)) (S "due")=some (.ref dA):=by rfl
  have n2:(upd m0 (S "due") (.ref dA)) (S "least")=some (.int k):=by assumption
  have un:(A.deeper (callEnv Zao L 251)).units + 64 < cLine:=by show A.units + 3 + 64 < _;(exact F20 0x840534700484657040 0x11 rfl hu)
  generalize upd m0 (S "due") (.ref dA)=m1 at n1 n2 ⊢;exact Zkm (A:=A.deeper (callEnv Zao L 251)) G hh un n1 n2 a2 a3 a4 (λz hz=>(a5 z hz).2) a6 (by refine ls.1▸?_;exact hl) hgl ok fin
end
noncomputable def ccon (C acc L:Addr) (hk:Hp):Con:=
 ⟨λav hp=>Hp.Le hk hp/\(∃ m₂,hp C=some (.ns m₂))/\(∃ ys,hp acc=some (.list ys)/\ys.length < 1000)/\∃ y xs,av = .ref y/\hp y=some (.list xs)/\xs.length<=1000/\y≠L/\y≠C,
  λav hp hp'=>∃ y xs c ys m₂,av = .ref y/\hp y=some (.list xs)/\hp acc=some (.list ys)/\hp c=none/\c≠L/\hp' C=some (.ns m₂)/\hp' acc=some (.list (ys ++ [.ref c]))/\hp' c=some (.list xs)/\∀ z o,z≠C->z≠acc->hp z=some o->hp' z=some o⟩
noncomputable def cCI (C acc:Addr) (gs:List (List Op)) (hc:Hp):Prop:=∃ m₂ zs,hc C=some (.ns m₂)/\hc acc=some (.list (List.map AV.ref zs))/\Ls hc zs gs/\zs.Nodup/\C ∉ zs/\acc ∉ zs
theorem Zmf {hk:Hp}{C acc L:Addr} (hCL:C≠L) (haL:acc≠L) (haC:acc≠C):CSpec (ccon C acc L hk) (cCI C acc) hk L where
 pre gs hc hp gA g c k:=by refine hide λ_ Z=>?_;refine aN c.ci λm₂ zs y1 y2 y3 y4 y5 y6=>?_;apply Z;clear Z;exact ⟨k,⟨m₂,c.le _ _ y1⟩,⟨_,c.le _ _ y2,by rw[List.length_map,y3.1];exact c.n⟩,gA,_,rfl,c.gl,by rw[List.length_map];exact c.k,c.gL,λe=>by have:=c.cg;rw[e,y1]at this;cases this⟩
 post gs hc hp gA g hp₂ c p:=by
  refine hide λ_ Z=>?_;refine aN c.ci λm₂ zs y1 y2 y3 y4 y5 y6=>?_;obtain ⟨y,xs,d,ys,mX,e1,e2,e3,e4,e5,e6,e7,e8,e9⟩:=p;apply Z;clear Z;cases e1;rw[c.gl]at e2;cases e2;rw[c.le _ _ y2]at e3;cases e3;have dC:d≠C:=λe=>by rw[e,c.le _ _ y1]at e4;cases e4
  have da:d≠acc:=λe=>by rw[e,c.le _ _ y2]at e4;cases e4
  have dz:d ∉ zs:=y3.fresh (c.le.none e4);refine ⟨((hc.set C (.ns mX)).set acc (.list ((zs ++ [d]).map .ref))).set d (.list (g.map oAV)),⟨mX,zs ++ [d],Hp.snt dC.symm (Hp.snt haC.symm (Hp.ss ..)),Hp.snt da.symm (Hp.ss ..),(((y3.set y5 _).set y6 _).set dz _).snoc (Hp.ss ..),List.nodup_append.mpr ⟨y4,by simp,λa ha b hb e=>by rw[List.mem_singleton]at hb;subst hb;exact dz (e ▸ ha)⟩,by simp[y5,dC.symm],by simp[y6,da.symm]⟩,λz o hz=>?_,Hp.snt e5.symm (Hp.snt haL.symm (Hp.snt hCL.symm c.cL)),λz o h1 h2 h3=>?_⟩
  .by_cases z1:z=d
   .subst z1;rw[Hp.ss]at hz;rw[e8];exact hz
   .rw [Hp.sn _ _ z1]at hz;by_cases z2:z=acc
    .subst z2;rw[Hp.ss]at hz;refine e7▸hz▸List.map_append▸?_;rfl
    .rw [Hp.sn _ _ z2]at hz;by_cases z3:z=C
     .subst z3;rw[Hp.ss]at hz;rw[e6];exact hz
     .rw [Hp.sn _ _ z3]at hz;exact e9 z o z3 z2 (c.le _ _ hz)
  .have z3:z≠C:=λe=>by rw[e,y1]at h1;cases h1
   have z2:z≠acc:=λe=>by rw[e,y2]at h1;cases h1
   have z1:z≠d:=Hp.ne_of h3 e4;exact ⟨e9 z o z3 z2 h3,Hp.snt z1 (Hp.snt z2 (Hp.snt z3 h1))⟩
section
variable {A:Around}{E:ET} {B BV:Shared}{env:Env}{m:Loc}{hp:Hp}{K:Frag}
theorem Zt1 {f:Addr}{fd:FuncData}{body:List Stmt}{avs:List AV}{bs:List (PySem.Str × AV)}{Q:QV} (G:Gnd K B) (ho:K.lookup f=some ⟨.type "function",none,.func fd,#[]⟩) (hcd:codeIn K fd.code fd.qualname=true)
  (hbody:fd.body = .stmts body) (hroom:A.depth < recursionLimit)
  (hbind:∀ s vs,VRs s.heap avs vs->(∀ b o,B.heap.get? b=some o->s.heap.get? b=some o)->∃ us:List (PySem.Str × Value),BindsTo s fd ⟨vs,[]⟩ us/\us.reverse.map (·.1)=bs.map (·.1)/\VRs s.heap (bs.map (·.2)) (us.reverse.map (·.2)))
  (hloc:bs.all (λx=>fd.scope.names.lookup x.1 == some .local)=true) (hcell:∀ x ∈ fd.scope.names,x.2≠.cell)
  (h:∀ L,hp L=none->L≠env.locals->EXs2 (model PW W0) (A.deeper (callEnv fd L f)) (λ_ _=>False) B BV (callEnv fd L f) body (Zaq bs) (hp.set env.locals (.ns m)) (RET L env m Q))
  (hco:fd.scope.isCoroutine=false:=by rfl) (hgen:fd.scope.isGenerator=false:=by rfl) (hk:fd.scope.kind = .function:=by rfl) :
  CD2 (model PW W0) A E B BV env (.ref f) m avs hp Q:=
 Znd G ho rfl hcd hbody hroom hbind hloc hcell (λL hL hLe s r=>wpAny_mono (h L hL hLe s r) (λfl s' ⟨af,m',hp',r',le',hf,hp₂,le,hn,q⟩=>⟨af,m',hp',r',le',hf,hp₂,λa o e=>⟨le a o e,λe'=>by subst e';rw[Hp.sn _ _ hLe,hn]at e;cases e⟩,q⟩) λ_ _ x=>x) hco hgen hk
end
section
structure TrmOut (hp hp':Hp) (L dx:Addr) (gs:List (List Op)) (dA:Addr) (zs:List Addr):Prop where
 d0:hp dA=none
 dL:dA≠L
 d:hp' dA=some (.list (zs.map .ref))
 ls:Ls hp' zs gs
 z:∀ z ∈ zs,z≠L/\z≠dx->hp z=none
 zL:∀ z ∈ zs,z≠L
 keep:∀ z o,z≠dx->z≠L->hp z=some o->hp' z=some o
theorem Znj {Ld Lg J x dx aA bA:Addr}{as bs:List Int}{aj:Bool}{hqc:Hp}{n k:Int}{g:Nat}{gn:Array GenState}{go:Obj}{Q:QX} (G:Gnd (KW W0) B) (hh:A.handled=none) (hu:A.units + 60 < cLine) (hroom:A.depth + 20 < recursionLimit)
  (le:Hp.Le hqc hp) (MM:MT hqc Lg x dx (.ref aA) (.ref bA) bs aj .none .none) (la:Lst B hp Lg aA (as.map .int)) (lb:Lst B hp Lg bA (bs.map .int)) (hla:as.length<=4000) (hlb:bs.length<=4000) (hraw:(rawB (flmW as bs aj) as.length bs.length).length < 64) (hres:(mbF (flmW as bs aj) as.length bs.length).length<=200) (hlen:(codesF as bs aj).length<=150)
  (hgo:∀ h:Heap,h.get? J=some go->h.IsGen J g) (hgB:g < gn.size) (hfr:gn[g]?=some (.fresh (.func (Za7 (mS 9)) (callEnv Zbu Lg 218)))) (hgl:GensLe B.gens gn) (hgs:B.gens.size<=g)
  (hJ:hp J=some (.obj go)) (hJd:J≠Ld) (hJg:J≠Lg) (hpg:hp Lg=some (.ns (Zaq [(S "n",.int n),(S "self",.ref x)]))) (hgd:Lg≠Ld) (hp0:hp Ld=none) (hdJ:dx≠J)
  (h1:m (S "groups")=some (.ref J))
  (hK:∀ dA zs hp',hp dA=none->dA≠Ld->hp' dA=some (.list (zs.map .ref))->Ls hp' zs (Zaw n (codesF as bs aj))->(∀ z ∈ zs,(z≠dx->z≠Lg->hp z=none)/\z≠Ld/\z≠dA)->zs.Nodup->(∀ z o,z≠dx->z≠Lg->hp z=some o->hp' z=some o) ->
   EXs (model PW W0) A E B (callEnv Zao Ld 251) [trS 1,trS 2] (upd m (S "due") (.ref dA)) hp' Q) :
  EXs2 (model PW W0) A E { B with gens:=gn } B (callEnv Zao Ld 251) [trS 0,trS 1,trS 2] m hp Q:=by
 refine Zj9 (cl:=[]) (L:=Lg) (I:=J) (g:=g) (gn:=gn) (go:=go) (mg:=Zaq [(S "n",.int n),(S "self",.ref x)]) (body:=Za7 (mS 9)) (genv:=callEnv Zbu Lg 218) hh (by (exact ul0 ‹_›)) G.lim rfl (by decide) (by decide) hgo hgB hfr hgl hgs rfl hJ hJd hJg hpg hgd (Zaa h1 ⟨rfl,rfl⟩) λacc C h0 ha haL hC hCL hCa=>?_;replace haL:acc≠Ld:=haL;replace hCL:C≠Ld:=hCL;have aJ:acc≠J:=Ne.symm (Hp.ne_of hJ ha);have ag:acc≠Lg:=Ne.symm (Hp.ne_of hpg ha);have cJ:C≠J:=Ne.symm (Hp.ne_of hJ hC);have cg:C≠Lg:=Ne.symm (Hp.ne_of hpg hC);have hkn:∀ z,z≠J->(Hp.set (λ_=>none) J (.obj go)) z=none:=λz hz=>Hp.sn _ _ hz;refine ⟨ccon C acc Lg (Hp.set (λ_=>none) J (.obj go)),302,λav hp x=>⟨x.1,x.2.1,x.2.2.1⟩,λgs av hp₁ mg m₂ ys c1 c2 hpre=>?_,?_⟩
 .refine hide λ_ Z=>?_;obtain ⟨hk1,_,⟨ys',e1,e2⟩,y,xs,rfl,e3,e4,e5,e6⟩:=hpre;apply Z;clear Z;rw[c2]at e1;cases e1;have G':Gnd (KW W0) (BG B gn g gs):=⟨G.X,G.top,G.lim⟩;refine Zai ?_;have hy:(hp₁.set Lg (.ns mg)) y=some (.list xs):=Hp.snt e5 e3;refine Zge (Zax G' (Zfr W0) Zeo (by decide) (λ_=>Zeg) ⟨rfl,Zab (Zaa (v:=.ref y) (by rfl) (Zae (Zjf (.own hy e6) (by (exact Nat.le_trans ‹_› (by decide))) λc hc hcC=>?_)))⟩);have cL:c≠Lg:=λe=>by rw[e,Hp.ss]at hc;cases hc
  have c0:hp₁ c=none:=Hp.snr cL hc;replace hcC:c≠C:=hcC;have ca:c≠acc:=λe=>by rw[e,c2]at c0;cases c0
  refine ⟨Hp.snt ca.symm (Hp.snt ag c2),Hp.snt cL.symm (Hp.ss ..),λz o hz=>?_,?_⟩
  .have h2:=hk1 _ _ hz;have zJ:z=J:=by
    by_cases e:z=J
    .exact e
    .rw [hkn z e]at hz;cases hz
   subst zJ;exact Hp.snt (Hp.ne_of h2 c0) (Hp.snt hJg h2)
  .refine ⟨y,xs,c,ys,_,rfl,e3,c2,c0,cL,(Hp.back_ne cg).trans (Hp.snt (Ne.symm (by exact hCa.symm)) (Hp.ss ..)),(Hp.back_ne ag).trans (Hp.ss ..),(Hp.back_ne cL).trans (Hp.snt ca (Hp.snt hcC (Hp.ss ..))),λz o z1 z2 hz=>?_⟩;by_cases zL:z=Lg
   .subst zL;rw[Hp.back_at];exact hz
   .rw [Hp.back_ne zL];exact Hp.snt z2 (Hp.snt z1 (Hp.snt (Hp.ne_of hz c0) (Hp.snt zL hz)))
 .refine hide λ_ Z=>?_;obtain ⟨ma,I,_⟩:=MM.keep;apply Z;clear Z;have hdx:=I.at_;have hdx':=le _ _ hdx;have dC:dx≠C:=Hp.ne_of hdx' hC;have da:dx≠acc:=Hp.ne_of hdx' ha;have dd:dx≠Ld:=Hp.ne_of hdx' hp0;have hH:Hp.Le hp (((hp.set Ld (.ns m)).set acc (.list [])).set C (.ns λ_=>none)):=(((Hp.Le.refl hp).set hp0 _).set ha _).set hC _;have hb0n:∀ z o,z≠dx->z≠Lg->(hp.set Ld (.ns m)) z=some o->(((hp.set Ld (.ns m)).del dx).del Lg) z=some o:=λz o z1 z2 e=>by rw[Hp.del_ne _ z2,Hp.del_ne _ z1];exact e
  have hb0s:Hp.Le (((hp.set Ld (.ns m)).del dx).del Lg) (hp.set Ld (.ns m)):=(Hp.del_le _ _).trans (Hp.del_le _ _);have hc0:∀ z,z≠C->z≠acc->((Hp.set (λ_=>none) C (.ns λ_=>none)).set acc (.list [])) z=none:=λz z1 z2=>Hp.snt z2 (Hp.snt z1 rfl);have dn:∀ z o,(hp.set Ld (.ns m)) z=some o->z≠C/\z≠acc:=λz o e=>by
   by_cases h:z=Ld
   .subst h;exact ⟨hCL.symm,haL.symm⟩
   .rw [Hp.sn _ _ h]at e;exact ⟨Hp.ne_of e hC,Hp.ne_of e ha⟩
  have hLd:(((hp.set Ld (.ns m)).del dx).del Lg) Ld=some (.ns m):=hb0n _ _ dd.symm hgd.symm (Hp.ss ..);refine Zg3 (B:=BG B gn g .running) (A:=A.in1) (Cn:=ccon C acc Lg (Hp.set (λ_=>none) J (.obj go))) (CI:=cCI C acc) (hk:=Hp.set (λ_=>none) J (.obj go)) (hc:=(Hp.set (λ_=>none) C (.ns λ_=>none)).set acc (.list [])) (hb:=((hp.set Ld (.ns m)).set acc (.list [])).set C (.ns λ_=>none)) (hb0:=((hp.set Ld (.ns m)).del dx).del Lg) (as:=as) (bs:=bs) (aj:=aj) (cd:=none) (ops:=codesF as bs aj) (n:=n) ⟨G.X,G.top,G.lim⟩ (Zmf cg ag (Ne.symm hCa)) hh ?_ ?_ (le.trans hH) MM ⟨rfl,rfl⟩ (la.le hH) (lb.le hH) hla hlb hraw hres rfl hlen
   ⟨_,[],Hp.snt hCa (Hp.ss ..),Hp.ss ..,⟨rfl,λi y g hy=>by nomatch hy⟩,.nil,by nofun,by nofun⟩ (λz o e=>?_) (hc0 _ cg.symm ag.symm) (hc0 _ dC da) (λz o e=>hc0 z (Hp.ne_of (le _ _ e) hC) (Hp.ne_of (le _ _ e) ha)) (λr o e=>by cases e) (λz o e=>hc0 z (dn _ _ (hb0s _ _ e)).1 (dn _ _ (hb0s _ _ e)).2)
   (by simp[Hp.del]) (λz o e=>Hp.snt (dn _ _ (hb0s _ _ e)).1 (Hp.snt (dn _ _ (hb0s _ _ e)).2 (hb0s _ _ e))) ((Hp.del_le _ _).none (by simp[Hp.del])) (λr o e=>by cases e) (λz o e=>?_) rfl rfl ?_
  .have e:(A.in1.over (Code.func (Za7 (mS 9)) (callEnv Zbu Lg 218)) []).units<=A.units + 20:=by (show A.units + 1 + 0 + 3<=_;(exact F10 0x145703404670005 0x1 rfl))
   (exact F30 0x81e59041457095083c57040 0x111 rfl hu e)
  .show A.depth + 1 + 7 < _;(exact F20 0x8746700481457040 0x11 rfl hroom)
  .by_cases z1:z=acc
   .subst z1;rw[Hp.ss]at e;rw[Hp.sn _ _ (Ne.symm hCa),Hp.ss];exact e
   .rw [Hp.sn _ _ z1]at e;by_cases z2:z=C
    .subst z2;rw[Hp.ss]at e ⊢;exact e
    .rw [Hp.sn _ _ z2]at e;cases e
  .have zJ:z=J:=by
    by_cases h:z=J
    .exact h
    .rw [hkn z h]at e;cases e
   subst zJ;rw[Hp.ss]at e;exact hb0n _ _ hdJ.symm hJg (Hp.snt hJd (hJ.trans e))
  .intro hp' m' hc' r hq' mb' ⟨m₂,zs,y1,y2,y3,y4,y5,y6⟩ hcl hcb hcq hcr hcL hle hleq MM2 hqr hqn hrr hrL hkept _;have hnot:∀ z,hc' z=none->z ∉ zs:=λz h=>y3.fresh h;have cut:∀ z,z≠Lg->z≠C->z≠Ld->(if z=Lg\/z=C\/z=Ld then none else hp' z)=hp' z:=λz a b c=>by
    rw[if_neg];rintro (h | h | h)
    .exact a h
    .exact b h
    .exact c h
   refine ⟨λz=>if z=Lg\/z=C\/z=Ld then none else hp' z,m₂,λz o hz=>?_,by simp,hK acc zs _ ha haL (by rw[cut acc ag (Ne.symm hCa) haL];exact hcl _ _ y2) ⟨y3.1,λi y g hy hg=>?_⟩ (λz hz=>⟨λz1 z2=>?_,λe=>hnot _ (hcb _ _ hLd) (e ▸ hz),λe=>y6 (e ▸ hz)⟩) y4 λz o z1 z2 hz=>?_⟩
   .by_cases z1:z=Ld
    .subst z1;rw[show (callEnv Zao z 251).locals=z from rfl,Hp.ss]at hz;rw[Hp.sn _ _ hgd.symm,hle _ _ hLd];exact hz
    .rw [show (callEnv Zao Ld 251).locals=Ld from rfl,Hp.sn _ _ z1]at hz;by_cases z2:z=C
     .subst z2;rw[Hp.ss]at hz;rw[Hp.sn _ _ cg,hcl _ _ y1];exact hz
     .rw [Hp.sn _ _ z2]at hz;by_cases z3:z=Lg
      .simp [z3]at hz
      .rw [cut z z3 z2 z1]at hz;rw[Hp.sn _ _ z3];exact hz
   .have hm:=List.mem_of_getElem? hy;show (if y=Lg\/y=C\/y=Ld then none else hp' y)=_;rw[cut y (λe=>hnot _ hcL (e ▸ hm)) (λe=>y5 (e ▸ hm)) (λe=>hnot _ (hcb _ _ hLd) (e ▸ hm))];exact hcl _ _ (y3.2 i y g hy hg)
   .cases e:hp z with
    | none=>rfl
    | some o=>exact absurd hz (hnot _ (hcb _ _ (hb0n z o z1 z2 (Hp.snt (Hp.ne_of e hp0) e))))
   .show (if z=Lg\/z=C\/z=Ld then none else hp' z)=_;rw[cut z z2 (Hp.ne_of hz hC) (Hp.ne_of hz hp0)];exact hle _ _ (hb0n z o z1 z2 (Hp.snt (Hp.ne_of hz hp0) hz))
end
section
theorem Zpf {func o e e2:Expr} {apos ipos pos}{pl:Sem Bool}{x dx aA bA:Addr}{as bs:List Int}{aj:Bool}{hqc:Hp}{n k:Int}{Q:QV} (G:Gnd (KW W0) B) (hh:A.handled=none) (hu:A.units + 80 < cLine) (hroom:A.depth + 30 < recursionLimit)
  (le:Hp.Le hqc hp) (MM:MT hqc env.locals x dx (.ref aA) (.ref bA) bs aj .none .none) (la:Lst B hp env.locals aA (as.map .int)) (lb:Lst B hp env.locals bA (bs.map .int)) (hla:as.length<=4000) (hlb:bs.length<=4000) (hraw:(rawB (flmW as bs aj) as.length bs.length).length < 64) (hres:(mbF (flmW as bs aj) as.length bs.length).length<=200) (hlen:(codesF as bs aj).length<=150)
  (hlg:(Zaw n (codesF as bs aj)).length<=900) (hgl:∀ g ∈ Zaw n (codesF as bs aj),g.length<=2000) (ok:(Zaw n (codesF as bs aj)=[]\/(Zaw n (codesF as bs aj)).head?=some [])\/∀ g ∈ Zaw n (codesF as bs aj),g≠[])
  (h:EV (model PW W0) A E B env func m hp λfv hpZ=>fv = .ref 251/\EV (model PW W0) A E B env o m hpZ λv hp₁=>v = .ref x/\hp₁=hp/\EV (model PW W0) A E B env e m hp₁ λu hp₂=>u = .int n/\hp₂=hp)
  (h2:∀ (gn:Array GenState) hp',EV (model PW W0) A E { B with gens:=gn } env e2 m hp' λu hp''=>u = .int k/\hp''=hp')
  (kk:∀ hp' dA zs,TrmOut hp hp' env.locals dx (Zdu k (Zaw n (codesF as bs aj))) dA zs->Q (.ref dA) hp')
  (hc0:eval (.Call func [.Call (.Attribute o (S "get_grouped_opcodes") apos) [e] [] ipos,e2] [] pos) env=(do callWith pos (<-eval func env) [] (backTo pos (starEach [.Call (.Attribute o (S "get_grouped_opcodes") apos) [e] [] ipos,e2] env)) (backToKw pos (keywordEach [] env))):=by rfl)
  (he0:starEach [.Call (.Attribute o (S "get_grouped_opcodes") apos) [e] [] ipos,e2] env=(false,eval (.Call (.Attribute o (S "get_grouped_opcodes") apos) [e] [] ipos) env) :: starEach [e2] env:=by rfl)
  (he1:starEach [e2] env=(false,eval e2 env) :: starEach [] env:=by rfl)
  (hc:eval (.Call (.Attribute o (S "get_grouped_opcodes") apos) [e] [] ipos) env=(do
   let ov <-eval o env
   standAt apos.atName
   let (f,first) <-holding [ov] (getMethod ov (S "get_grouped_opcodes") pl)
   callWith ipos f first (backTo ipos (starEach [e] env)) []):=by rfl)
  (he:starEach [e] env=(false,eval e env) :: starEach [] env:=by rfl) (hplain:(backTo ipos (starEach [] env)).any (·.1)=false:=by rfl) :
  EV (model PW W0) A E B env (.Call func [.Call (.Attribute o (S "get_grouped_opcodes") apos) [e] [] ipos,e2] [] pos) m hp Q:=by
 obtain ⟨ma,I0,_,_,hno,_⟩:=MM.keep;have I:=I0.le le;refine Zpi (fd:=Zbu) (ft:=Zao) (fT:=251) (body:=Za7 (mS 9)) G (clsS W0) (f:=218) (by kernel_rfl) (by kernel_rfl) (by kernel_rfl) (by (exact ul0 ‹_›)) (kGrp W0) (by kernel_rfl) rfl (by decide) (Zel W0) rfl ?_ hc0 he0 he1 hc he hplain;refine h.mono λfv hpZ y=>⟨y.1,y.2.mono λv hp₁ z=>?_⟩;obtain ⟨rfl,rfl,z⟩:=z;refine ⟨x,dx,ma,rfl,I,hno "get_grouped_opcodes" (by decide),Zab (z.mono λu hp₂ q=>Zae ?_) (he:=he)⟩;obtain ⟨rfl,rfl⟩:=q;refine ⟨[(S "n",.int n),(S "self",.ref x)],λs ws hv hk=>?_,by kernel_rfl,λgn g Lg J go hLg hLge hJ hJe hJL hgo hgB hfr hgl' hgs=>(h2 gn _).mono λu hpX q=>?_⟩
 .refine ad (Zbg hv) λv u V h1 h2=>?_;subst V;exact ⟨[(S "self",v),(S "n",u)],binds_K (G.X.keeps hk) rfl (by rfl) rfl rfl rfl,rfl,.mk h2 (.mk h1 .nil)⟩
 obtain ⟨rfl,rfl⟩:=q;have G':Gnd (KW W0) { B with gens:=gn }:=⟨G.X,G.top,G.lim⟩;refine Zt1 (bs:=[(S "least",.int k),(S "groups",.ref J)]) (body:=Za7 (topS PW 7)) G' (Zel W0) (by kernel_rfl) rfl (by (exact ul0 ‹_›)) (λs vs hv _=>?_) (by kernel_rfl) (by decide) (λLd hLd hLde=>?_)
 .refine ad (Zbg hv) λv u V h1 h2=>?_;subst V;exact ⟨[(S "groups",v),(S "least",u)],BindsTo.of_eq rfl,rfl,.mk h2 (.mk h1 .nil)⟩
 have g0:Zaq [(S "least",AV.int k),(S "groups",.ref J)] (S "groups")=some (.ref J):=rfl;have g1:Zaq [(S "least",AV.int k),(S "groups",.ref J)] (S "least")=some (.int k):=rfl;generalize hm0:Zaq [(S "least",AV.int k),(S "groups",.ref J)]=m0 at g0 g1 ⊢;clear hm0;generalize hLL:env.locals=L at *;have hJd:J≠Ld:=λe=>by rw[<-e,Hp.sn _ _ hJL,Hp.ss]at hLd;cases hLd
 have hgd:Lg≠Ld:=λe=>by rw[<-e,Hp.ss]at hLd;cases hLd
 have hLd0:hp₂ Ld=none:=Hp.snr hJd.symm (Hp.snr hgd.symm hLd);have hb1:∀ z o,(hp₂.set L (.ns m)) z=some o->(((hp₂.set J (.obj go)).set Lg (.ns (Zaq [(S "n",AV.int n),(S "self",.ref x)]))).set L (.ns m)) z=some o:=λz o e=>by
  by_cases h:z=L
  .subst h;rw[Hp.ss]at e ⊢;exact e
  .rw [Hp.sn _ _ h]at e ⊢;exact Hp.snt (Hp.ne_of e hLg) (Hp.snt (Hp.ne_of e hJ) e)
 have hb2:∀ z,z≠J->z≠Lg->(((hp₂.set J (.obj go)).set Lg (.ns (Zaq [(S "n",AV.int n),(S "self",.ref x)]))).set L (.ns m)) z=none->hp₂ z=none/\z≠L:=λz z1 z2 e=>by
  have h:z≠L:=λh=>by rw[h,Hp.ss]at e;cases e
  exact ⟨Hp.snr z1 (Hp.snr z2 (Hp.snr h e)),h⟩
 have eJ:(((hp₂.set J (.obj go)).set Lg (.ns (Zaq [(S "n",AV.int n),(S "self",.ref x)]))).set L (.ns m)) J=some (.obj go):=Hp.snt hJe (Hp.snt hJL (Hp.ss ..));have eg:(((hp₂.set J (.obj go)).set Lg (.ns (Zaq [(S "n",AV.int n),(S "self",.ref x)]))).set L (.ns m)) Lg=some (.ns (Zaq [(S "n",AV.int n),(S "self",.ref x)])):=Hp.snt hLge (Hp.ss ..);have ed:(((hp₂.set J (.obj go)).set Lg (.ns (Zaq [(S "n",AV.int n),(S "self",.ref x)]))).set L (.ns m)) Ld=none:=Hp.snt hLde hLd;have eL:(((hp₂.set J (.obj go)).set Lg (.ns (Zaq [(S "n",AV.int n),(S "self",.ref x)]))).set L (.ns m)) L=some (.ns m):=Hp.ss ..;generalize ((hp₂.set J (.obj go)).set Lg (.ns (Zaq [(S "n",AV.int n),(S "self",.ref x)]))).set L (.ns m)=hb at *;have hback:∀ z o,z≠L->hp₂ z=some o->hb z=some o:=λz o hz e=>hb1 _ _ (Hp.snt hz e);have MM':MT (hqc.del L) Lg x dx (.ref aA) (.ref bA) bs aj .none .none:=MM.move λz o e hn hz=>⟨by rw[Hp.del_ne _ hz];exact e,Hp.ne_of (le _ _ e) hLg⟩;have le1:Hp.Le (hqc.del L) hb:=λz o e=>by
  by_cases hz:z=L
  .subst hz;simp[Hp.del]at e
  .rw [Hp.del_ne _ hz]at e;exact hback z o hz (le _ _ e)
 have la1:Lst B hb Lg aA (as.map .int):=(la.call (m:=m) hLg).le hb1;have lb1:Lst B hb Lg bA (bs.map .int):=(lb.call (m:=m) hLg).le hb1;have hdxL:dx≠L:=I.dL;show EXs2 _ _ _ _ _ _ [trS 0,trS 1,trS 2] _ _ _;have un:(A.deeper (callEnv Zao Ld 251)).units + 64 < cLine:=by show A.units + 3 + 64 < _;(exact F20 0x840534700485057040 0x11 rfl hu)
 refine Znj (A:=A.deeper (callEnv Zao Ld 251)) (as:=as) (k:=k) G hh (by (exact ul ‹_› (by decide))) (by show A.depth + 1 + 20 < _;(exact F20 0x81456700481e57040 0x11 rfl hroom)) le1 MM' la1 lb1 hla hlb hraw hres hlen hgo hgB hfr hgl' hgs eJ hJd hJL eg hgd ed (Hp.ne_of I.at_ hJ) g0 λdA zs hp1 a1 a2 a3 a4 a5 a6 a7=>?_;have n1:(upd m0 (S "due") (.ref dA)) (S "due")=some (.ref dA):=by rfl
 have n2:(upd m0 (S "due") (.ref dA)) (S "least")=some (.int k):=by assumption
 refine Zkm (A:=A.deeper (callEnv Zao Ld 251)) G hh un n1 n2 a2 a3 a4 (λz hz=>(a5 z hz).2) a6 hlg hgl ok λm' hp2 c1 c2 c3 c4=>?_;have hdx':=hback _ _ hdxL I.at_;have zd:∀ z ∈ zs,z≠dx->z≠Lg->hb z=none:=λz hz=>(a5 z hz).1;have zL:∀ z ∈ zs,z≠L:=λz hz e=>by have:=zd z hz (e ▸ hdxL.symm) (e ▸ hLge.symm);rw[e,eL]at this;cases this
 have c5:∀ z o,z≠dx->z≠Lg->hb z=some o->hp2 z=some o:=λz o z1 z2 e=>c4 z o (λhm=>by rw[zd z hm z1 z2]at e;cases e) (a7 _ _ z1 z2 e);have dJ:dA≠J:=λe=>by replace a1:=eJ▸e▸a1;cases a1
 have dg:dA≠Lg:=λe=>by replace a1:=eg▸e▸a1;cases a1
 have hd2:=hb2 dA dJ dg a1;refine Zac (Zbo (Zaa c1 ?_));refine Zcs (by rw[hLL];exact c5 _ _ hdxL.symm hLge.symm eL) ?_;rw[hLL];refine kk _ dA zs ⟨hd2.1,hd2.2,?_,⟨c3.1,λi y g hy hg=>?_⟩,λz hz z1=>?_,zL,λz o z1 z2 e=>?_⟩
 .rw [Hp.cut_eq hd2.2 a2];exact c2
 .have hm:=List.mem_of_getElem? hy;rw[Hp.cut_eq (zL y hm) (a5 y hm).2.1];exact c3.2 i y g hy hg
 .by_cases h:z=Lg
  .rw [h];exact hLg
  .have:=zd z hz z1.2 h;by_cases hJz:z=J
   .rw [hJz];exact hJ
   .exact (hb2 z hJz h this).1
 .have e':=hback _ _ z2 e;rw[Hp.cut_eq z2 (Hp.ne_of e hLd0)];exact c5 _ _ z1 (Hp.ne_of e hLg) e'
end
section
variable {K:Frag}
theorem Zfl {pos}{Q:QX} (h:Q (.ret .none) m hp):EX (model PW W0) A E B env (.Return none pos) m hp Q:=λs r=>
 wpAny_Return_none ⟨.ret .none,m,hp,r,.refl _,⟨.none,rfl,VR_none⟩,h⟩
theorem Zl5 {it l:Addr}{items:Array Value} (hne:l≠it):∀ (n i:Nat) (s:Shared) (Q:List Value->Shared->Prop),s.heap.IsListIter it l i->s.heap.IsList l items->i + n<=items.size ->
  (∀ h',h'.IsListIter it l (i + n:Nat)->Heap.SameBut it s.heap h'->Q ((items.toList.drop i).take n) { s with heap:=h' })->wpAny (model PW W0) A (draw (.ref it) n) Q E s:=by
 intro r_
 induction r_ with
 | zero=>
  intro i s Q hit _ _ hQ;show wpAny _ _ (pure []) Q E s;exact wP (by simpa using hQ s.heap hit (Heap.SameBut.refl ..))
 | succ n ih=>
  intro i s Q hit ht hle hQ;have hlt:i < items.size:=by (exact ul0 ‹_›)
  show wpAny _ _ (pyNext (.ref it) >>= _) Q E s;refine wB (wpAny_pyNext_list_item hit ht (x:=items[i]) (by simp) λh₁ hit₁ hs₁=>?_);refine wB (wpAny_holding (ih (i + 1) _ _ hit₁ (let ⟨o,ho,r⟩:=ht;⟨o,hs₁.extBut _ _ hne ho,r⟩) (by (exact F30 0x986700596807050 0x11 rfl hle)) λhV hitV hsV=>wP ?_));have hd:items.toList.drop i=items[i] :: items.toList.drop (i + 1):=by simp[List.drop_eq_getElem_cons,hlt]
  have:=hQ hV (by rw[show i + (n + 1)=i + 1 + n by (exact F20 0x86700680706 0x11 rfl)];exact hitV) (hs₁.trans hsV);rw[hd,List.take_succ_cons]at this;exact this
theorem Zki {elts:List Expr} {k pos}{a:Addr}{xs:List AV}{ts:List (Value->Sem Unit)}{Q:Loc->Hp->Prop} (hh:A.handled=none) (hts:(assignEach elts env).map (·.2)=ts) (hn:(assignEach elts env).length=xs.length) (hstar:(assignEach elts env).findIdx? (·.1)=none) (hl:Lst B hp env.locals a xs)
  (h:ASGS (model PW W0) A E B env ts xs m hp Q):ASG (model PW W0) A E B env (.Tuple elts k pos) (.ref a) m hp Q:=λs v r hv=>by
 simp only[VR]at hv;subst hv;refine aa (r.lst hl) λus hlst hus=>?_;have hlt:a≠s.heap.objs.size:=by obtain ⟨o,ho,_⟩:=hlst;exact Nat.ne_of_lt (Heap.lt_size ho)
 have e1:us.size=xs.length:=by refine Array.length_toList▸?_;exact hus.length
 rw[assign_Tuple];refine wB (wpAny_standAt ?_);unfold unpack;refine hstar▸hn▸e1▸?_;refine wB (wpAny_holding ?_);unfold unpackItems;refine wB ?_;unfold notIterableAtAll;refine wB (wpAny_specialOf (let ⟨o,ho,hc,_⟩:=hlst;⟨o,ho,hc⟩) slot_list_iter.lookup ?_);refine wP ?_;simp only[Bool.false_eq_true,if_false];refine wB (wpAny_holding (wpAny_pyIter_list hlst ?_));have hl1:(s.heap.push { cls:=.type "list_iterator",data:=.fields #[.ref a,.int 0 0] }).IsList a us:=let ⟨o,ho,r⟩:=hlst;⟨o,Heap.get?_push_of_some _ ho,r⟩;refine wB (wpAny_holding (Zl5 hlt us.size 0 { s with heap:=s.heap.push { cls:=.type "list_iterator",data:=.fields #[.ref a,.int 0 0] } } _ ⟨_,Heap.get?_push_size _ rfl,rfl,rfl⟩ hl1 (by (exact F10 0x770405 0x1 rfl)) λh₁ hit₁ hs₁=>?_));have hall:List.take us.size (List.drop 0 us.toList)=us.toList:=by rw[List.drop_zero];exact List.take_of_length_le (by simp)
 rw[hall,if_neg (by simp)];have hl2:h₁.IsList a us:=let ⟨o,ho,r⟩:=hl1;⟨o,hs₁.extBut _ _ hlt ho,r⟩;rw[Nat.zero_add]at hit₁;refine wB (wpAny_holding (wpAny_pyNext_list_end (s:={ s with heap:=h₁ }) hh hit₁ hl2 (by simp) λhV heV=>?_));simp;refine wP ?_;obtain ⟨r',le⟩:=r.ext (λb o hb e=>heV b o hb (hs₁.extBut b o hb (Heap.get?_push_of_some _ e))) s.toks;refine hts▸?_;exact useA (h _ _ r' (hus.mono le)) λ_ sV m₂ hp₂ rV leV q=>mkA rV (le.trans leV) q
end
section
variable {x dx aA bA:Addr}{av bv:AV}{bs:List Int}{aj:Bool}{mb op:AV}
theorem Zpo {ma:Loc}{xs:List AV}{Q:QV} (G:Gnd (KW W0) B) (hroom:A.depth < recursionLimit) (I:Ins hp env.locals x dx 242 ma) (ha:ma (S "a")=some (.ref aA)) (la:Lst B hp env.locals aA xs) (h:Q .none hp) :
  CL (model PW W0) A E B env (.ref 174) m [.ref x,.ref aA] hp Q:=by
 refine CD.cl (Zdd (bs:=[(S "a",.ref aA),(S "self",.ref x)]) (body:=Za7 (mS 3)) G (Zs2 W0) (by kernel_rfl) rfl hroom (λs vs hv _=>?_) (by kernel_rfl) (by decide) (λL hL hLe=>?_))
 .refine ad (Zbg hv) λv u V h1 h2=>?_;subst V;exact ⟨[(S "self",v),(S "a",u)],BindsTo.of_eq rfl,rfl,.mk h2 (.mk h1 .nil)⟩
 .have I':Ins (hp.set env.locals (.ns m)) L x dx 242 ma:=I.call hL;have g0:Zaq [(S "a",AV.ref aA),(S "self",AV.ref x)] (S "self")=some (.ref x):=rfl;have g1:Zaq [(S "a",AV.ref aA),(S "self",AV.ref x)] (S "a")=some (.ref aA):=rfl;generalize hm0:Zaq [(S "a",AV.ref aA),(S "self",AV.ref x)]=m0 at *;refine Zac (Zcj ?_);refine Zac (Za5 (Zad (Zaa g1 (Zbc G g0 I' ha (Zmr (la.call hL) (Zaj ?_))))));refine if_t ?_;exact Zac (Zfl (Zc3 hL h))
theorem Zpn {ma:Loc}{xs:List AV}{Q:QV} (G:Gnd (KW W0) B) (hroom:A.depth < recursionLimit) (I:Ins hp env.locals x dx 242 ma) (hb:ma (S "b")=some (.ref bA)) (lb:Lst B hp env.locals bA xs) (h:Q .none hp) :
  CL (model PW W0) A E B env (.ref 181) m [.ref x,.ref bA] hp Q:=by
 refine CD.cl (Zdd (bs:=[(S "b",.ref bA),(S "self",.ref x)]) (body:=Za7 (mS 4)) G (Zs1 W0) (by kernel_rfl) rfl hroom (λs vs hv _=>?_) (by kernel_rfl) (by decide) (λL hL hLe=>?_))
 .refine ad (Zbg hv) λv u V h1 h2=>?_;subst V;exact ⟨[(S "self",v),(S "b",u)],BindsTo.of_eq rfl,rfl,.mk h2 (.mk h1 .nil)⟩
 .have I':Ins (hp.set env.locals (.ns m)) L x dx 242 ma:=I.call hL;have g0:Zaq [(S "b",AV.ref bA),(S "self",AV.ref x)] (S "self")=some (.ref x):=rfl;have g1:Zaq [(S "b",AV.ref bA),(S "self",AV.ref x)] (S "b")=some (.ref bA):=rfl;generalize hm0:Zaq [(S "b",AV.ref bA),(S "self",AV.ref x)]=m0 at *;refine Zac (Zcj ?_);refine Zac (Za5 (Zad (Zaa g1 (Zbc G g0 I' hb (Zmr (lb.call hL) (Zaj ?_))))));refine if_t ?_;exact Zac (Zfl (Zc3 hL h))
theorem Zpm {xs ys:List AV}{Q:QV} (G:Gnd (KW W0) B) (hroom:A.depth + 1 < recursionLimit) (M:MT hp env.locals x dx (.ref aA) (.ref bA) bs aj mb op) (la:Lst B hp env.locals aA xs) (lb:Lst B hp env.locals bA ys) (h:Q .none hp) :
  CL (model PW W0) A E B env (.ref 167) m [.ref x,.ref aA,.ref bA] hp Q:=by
 refine hide λ_ Z=>?_;obtain ⟨ma,I,_,_,hno,ha,hb,_⟩:=M.keep;apply Z;clear Z;refine CD.cl (Zdd (bs:=[(S "b",.ref bA),(S "a",.ref aA),(S "self",.ref x)]) (body:=Za7 (mS 2)) G (Zs0 W0) (by kernel_rfl) rfl (by (exact Nat.lt_of_succ_lt ‹_›)) (λs vs hv _=>?_) (by kernel_rfl) (by decide) (λL hL hLe=>?_))
 .refine hide λ_ Z=>?_;refine aw (Zhe hv) λv u z V h1 h2 h3=>?_;subst V;apply Z;clear Z;exact ⟨[(S "self",v),(S "a",u),(S "b",z)],BindsTo.of_eq rfl,rfl,.mk h3 (.mk h2 (.mk h1 .nil))⟩
 .have I':Ins (hp.set env.locals (.ns m)) L x dx 242 ma:=I.call hL;have g0:Zaq [(S "b",AV.ref bA),(S "a",AV.ref aA),(S "self",AV.ref x)] (S "self")=some (.ref x):=rfl;have g1:Zaq [(S "b",AV.ref bA),(S "a",AV.ref aA),(S "self",AV.ref x)] (S "b")=some (.ref bA):=rfl;have g2:Zaq [(S "b",AV.ref bA),(S "a",AV.ref aA),(S "self",AV.ref x)] (S "a")=some (.ref aA):=rfl;generalize hm0:Zaq [(S "b",AV.ref bA),(S "a",AV.ref aA),(S "self",AV.ref x)]=m0 at *;refine Zac (Zcj ?_);refine Zac (Za0 (Zck G (clsS W0) (f:=174) (by kernel_rfl) (by kernel_rfl) (by kernel_rfl) (Zaa g0 ⟨x,dx,_,rfl,I',hno _ (by decide),Zab (Zaa g2 (Zae ?_))⟩)));refine Zpo (A:=A.deeper (callEnv Zg6 L 167)) G (by show A.depth + 1 < _;omega) I' ha (la.call hL) ⟨by nofun,by nofun,by nofun,?_⟩;refine Zac (Za0 (Zck G (clsS W0) (f:=181) (by kernel_rfl) (by kernel_rfl) (by kernel_rfl) (Zaa g0 ⟨x,dx,_,rfl,I',hno _ (by decide),Zab (Zaa g1 (Zae ?_))⟩)));refine Zpn (A:=A.deeper (callEnv Zg6 L 167)) G (by show A.depth + 1 < _;omega) I' hb (lb.call hL) ⟨by nofun,by nofun,by nofun,?_⟩;exact Zaf (Zc3 hL h)
theorem Zpr {xs ys:List AV}{nA:Addr}{Q:QV} (G:Gnd (KW W0) B) (hroom:A.depth < recursionLimit) (M:MT hp env.locals x dx (.ref aA) bv bs aj mb op) (la:Lst B hp env.locals aA xs) (ln:Lst B hp env.locals nA ys) (hne:nA≠aA)
  (h:∀ hp',MT hp' env.locals x dx (.ref nA) bv bs aj .none .none->(∀ z o,z≠dx->hp z=some o->hp' z=some o)->Q .none hp'):CL (model PW W0) A E B env (.ref 174) m [.ref x,.ref nA] hp Q:=by
 refine hide λ_ Z=>?_;refine aC M.ex λma d j I F R hj hjL=>?_;apply Z;clear Z;have jx:j≠dx:=λe=>by rw[e,I.at_]at hj;cases hj
 have f1:=F.b;have f2:=F.b2j;have f3:=F.bj;have f4:=F.ij;have f5:=F.aj;refine Zm8 G hroom I F.a (.inr ⟨nA,rfl,.inr (.inr ⟨aA,ys,xs,rfl,la,ln,hne⟩)⟩) (h _ ⟨_,d,j,I.put,⟨by rfl,by assumption,by assumption,by assumption,by rfl,by rfl,by assumption,by assumption,λy hy=>?_⟩,R.put I.at_,Hp.snt jx hj,hjL⟩ λz o hz e=>Hp.snt hz e);have hy':=hy;simp only[Ze2,List.mem_cons,List.not_mem_nil,or_false,not_or]at hy';simp only[ug,hy',if_false];exact F.no y hy
theorem Zpq {xs:List AV}{cs:List Int}{nA:Addr}{Q:QV} (G:Gnd (KW W0) B) (hh:A.handled=none) (hroom:A.depth + 1 < recursionLimit) (M:MT hp env.locals x dx av (.ref bA) bs aj mb op) (lb:Lst B hp env.locals bA xs) (ln:Lst B hp env.locals nA (cs.map .int)) (hne:nA≠bA) (hn:Few cs aj) (hlen:cs.length<=4000)
  (h:∀ hp',MT hp' env.locals x dx av (.ref nA) cs aj .none .none->(∀ z o,z≠dx->z≠env.locals->hp z=some o->hp' z=some o)->hp' env.locals=none->Q .none hp'):CL (model PW W0) A E B env (.ref 181) m [.ref x,.ref nA] hp Q:=by
 refine hide λ_ Z=>?_;refine aC M.ex λma d j I F R hj hjL=>?_;apply Z;clear Z;have f1:=F.a;have f4:=F.ij;have f5:=F.aj;refine Zm7 G hh hroom I F.b (.inr ⟨nA,rfl,.inr (.inr ⟨bA,cs.map .int,xs,rfl,lb,ln,hne⟩)⟩) (.list ln) F.ij F.aj (F.no _ (by decide)) hn hlen λhp' d' j' p i1 i2 i3 i4 i5 i6=>?_;refine h hp' ⟨_,d',j',i1,⟨by assumption,by rfl,by rfl,by rfl,by rfl,by rfl,by assumption,by assumption,λy hy=>?_⟩,i2,i3,i4⟩ i5 i6;have hy':=hy;simp only[Ze2,List.mem_cons,List.not_mem_nil,or_false,not_or]at hy';simp only[ug,hy',if_false];exact F.no y hy
theorem Zpp {xs ys zs:List AV}{cs:List Int}{nA nB:Addr}{Q:QV} (G:Gnd (KW W0) B) (hh:A.handled=none) (hroom:A.depth + 2 < recursionLimit) (M:MT hp env.locals x dx (.ref aA) (.ref bA) bs aj mb op) (la:Lst B hp env.locals aA xs) (lb:Lst B hp env.locals bA ys) (ln:Lst B hp env.locals nA zs) (lm:Lst B hp env.locals nB (cs.map .int)) (h1:nA≠aA) (h2:nB≠bA) (hn:Few cs aj) (hlen:cs.length<=4000)
  (h:∀ hp',MT hp' env.locals x dx (.ref nA) (.ref nB) cs aj .none .none->(∀ z o,z≠dx->z≠env.locals->hp z=some o->hp' z=some o)->hp' env.locals=none->Q .none hp'):CL (model PW W0) A E B env (.ref 167) m [.ref x,.ref nA,.ref nB] hp Q:=by
 refine hide λ_ Z=>?_;refine aC M.ex λma d j I F R hj hjL=>?_;apply Z;clear Z;exact Zm6 G hh hroom I F.a F.b (.inr ⟨nA,rfl,.inr (.inr ⟨aA,zs,xs,rfl,la,ln,h1⟩)⟩) (.inr ⟨nB,rfl,.inr (.inr ⟨bA,cs.map .int,ys,rfl,lb,lm,h2⟩)⟩) (.list lm) F.ij F.aj F.no hn hlen h
end
section
variable {as bs:List Int}{fj:Int->Bool}{v:Bool}
noncomputable def EqB (as bs:List Int) (b:Best):Prop:=∀ t,0<=t->t < b.2.2->as.getD (b.1 + t).toNat 0=bs.getD (b.2.1 + t).toNat 0
theorem Zp8 {p q:Int} (h:cnd as bs fj v p q=true):as.getD p.toNat 0=bs.getD q.toNat 0:=by unfold cnd at h;simp only[Bool.and_eq_true,beq_iff_eq]at h;exact h.2
theorem Zoy {alo blo:Int}:∀ (n:Nat) (b:Best),EqB as bs b->EqB as bs (down (cnd as bs fj v) alo blo n b):=by
 intro r_
 induction r_ with
 | zero=>
  intro b h;exact h
 | succ n ih=>
  intro b h;dsimp only[down];split
  .rename_i hc;refine ih _ λt h0 h1=>?_;dsimp only at h1 ⊢;by_cases ht:t=0
   .subst ht;rw[Int.add_zero,Int.add_zero];exact Zp8 hc.2.2
   .have:=h (t - 1) (by (exact F01 0x67104870480047920 0x101011 rfl ht h0)) (by (exact F02 0x86717680770 0x11 rfl h1))
    rwa [show b.1 + (t - 1)=b.1 - 1 + t from by (exact F02 0x86710681709 0x11 rfl),show b.2.1 + (t - 1)=b.2.1 - 1 + t from by (exact F02 0x86710681709 0x11 rfl)]at this
  .exact h
theorem Zpw {ahi bhi:Int}:∀ (n:Nat) (b:Best),EqB as bs b->EqB as bs (up (cnd as bs fj v) ahi bhi n b)
 | 0,b,h=>h
 | n + 1,b,h=>by
  dsimp only[up];split
  .rename_i hc;refine Zpw n _ λt h0 h1=>?_;dsimp only at h1 ⊢;by_cases ht:t < b.2.2
   .exact h t h0 ht
   .have:t=b.2.2:=by (exact F02 0x87987720680770 0x101110 rfl h1 ht)
    subst this;exact Zp8 hc.2.2
  .exact h
theorem Zox {c:Int->Int->Bool}{alo blo:Int}:∀ (n:Nat) (b:Best),(b.1 - alo).toNat<=n->¬ ((down c alo blo n b).1 > alo/\(down c alo blo n b).2.1 > blo/\c ((down c alo blo n b).1 - 1) ((down c alo blo n b).2.1 - 1)=true):=by
 intro r_
 induction r_ with
 | zero=>
  intro b h;intro x;have:=x.1;dsimp only[down]at this
  (exact F02 0x38770047507813a 0x10101101 rfl h this)
 | succ n ih=>
  intro b h;dsimp only[down];split
  .exact ih _ (by dsimp only;(exact F12 0x9856907508713a867113a 0x100001100001101010110110 rfl h))
  .assumption
theorem Zr5 {c:Int->Int->Bool}{ahi bhi:Int}:∀ (n:Nat) (b:Best),(ahi - (b.1 + b.2.2)).toNat<=n->¬ ((up c ahi bhi n b).1 + (up c ahi bhi n b).2.2 < ahi/\(up c ahi bhi n b).2.1 + (up c ahi bhi n b).2.2 < bhi/\c ((up c ahi bhi n b).1 + (up c ahi bhi n b).2.2) ((up c ahi bhi n b).2.1 + (up c ahi bhi n b).2.2)=true):=by
 intro r_
 induction r_ with
 | zero=>
  intro b h;intro x;have:=x.1;dsimp only[up]at this
  (exact F03 0x398707004750870913a 0x10101101 rfl h this)
 | succ n ih=>
  intro b h;dsimp only[up];split
  .exact ih _ (by dsimp only;(exact F13 0x985690750980713a69080713a 0x100001100001101010110110 rfl h))
  .assumption
theorem Zpv {c:Int->Int->Bool}{ahi bhi:Int}:∀ (n:Nat) (b:Best),(up c ahi bhi n b).1=b.1/\(up c ahi bhi n b).2.1=b.2.1
 | 0,b=>⟨rfl,rfl⟩
 | n + 1,b=>by
  dsimp only[up];split
  .exact Zpv n _
  .exact ⟨rfl,rfl⟩
theorem Zur {aj:Bool}{p q:Int} (h:MJ as (PJ bs aj) p q):as.getD p.toNat 0=bs.getD q.toNat 0:=by
 obtain ⟨j,hj,rfl⟩:=h;have hj:j ∈ idxN bs (as.getD p.toNat 0):=by
  unfold PJ at hj;split at hj
  .cases hj
  .exact hj
 simp only[idxN,List.mem_filter,List.mem_range,beq_iff_eq]at hj;rw[Int.toNat_natCast,List.getD_eq_getElem?_getD (l:=bs),hj.2];rfl
structure Maxi (as bs:List Int) (W0:Win) (t:Tri):Prop where
 eq:EqB as bs t
 lo:W0.1 < t.1->W0.2.2.1 < t.2.1->as.getD (t.1 - 1).toNat 0≠bs.getD (t.2.1 - 1).toNat 0
 hi:t.1 + t.2.2 < W0.2.1->t.2.1 + t.2.2 < W0.2.2.2->as.getD (t.1 + t.2.2).toNat 0≠bs.getD (t.2.1 + t.2.2).toNat 0
theorem Zlz (as bs:List Int) (aj:Bool) (W0:Win):Maxi as bs W0 (flmW as bs aj W0):=by
 have Lg:=Zce (as:=as) (alo:=W0.1) (ahi:=W0.2.1) (blo:=W0.2.2.1) (bhi:=W0.2.2.2) (Zja bs aj);delta flmW flmF;generalize (outS as (PJ bs aj) W0.1 W0.2.2.1 W0.2.2.2 (W0.2.1 - W0.1).toNat).2=b at Lg;have e0:EqB as bs b:=λt h0 h1=>Zur ((Lg.com (by (exact Int.lt_of_le_of_lt ‹_› ‹_›))).eq t h0 h1);have no:∀ p q,cnd as bs (λ_=>false) true p q=false:=λp q=>rfl;have i1:∀ r:Best,downAll (cnd as bs (λ_=>false) true) W0.1 W0.2.2.1 r=r:=λr=>Zq9 λh=>by rw[no]at h;exact Bool.noConfusion h.2.2
 have i2:∀ r:Best,Zfn (cnd as bs (λ_=>false) true) W0.2.1 W0.2.2.2 r=r:=λr=>Zt3 λh=>by rw[no]at h;exact Bool.noConfusion h.2.2
 rw[i1,i2];have e1:EqB as bs (downAll (cnd as bs (λ_=>false) false) W0.1 W0.2.2.1 b):=Zoy _ _ e0;have m1:=Zox (c:=cnd as bs (λ_=>false) false) (alo:=W0.1) (blo:=W0.2.2.1) (b.1 - W0.1).toNat b (Nat.le_refl _);change ¬ ((downAll (cnd as bs (λ_=>false) false) W0.1 W0.2.2.1 b).1 > W0.1/\(downAll (cnd as bs (λ_=>false) false) W0.1 W0.2.2.1 b).2.1 > W0.2.2.1/\cnd as bs (λ_=>false) false ((downAll (cnd as bs (λ_=>false) false) W0.1 W0.2.2.1 b).1 - 1) ((downAll (cnd as bs (λ_=>false) false) W0.1 W0.2.2.1 b).2.1 - 1)=true) at m1;generalize downAll (cnd as bs (λ_=>false) false) W0.1 W0.2.2.1 b=r at e1 m1;have m2:=Zr5 (c:=cnd as bs (λ_=>false) false) (ahi:=W0.2.1) (bhi:=W0.2.2.2) (W0.2.1 - (r.1 + r.2.2)).toNat r (Nat.le_refl _);obtain ⟨f1,f2⟩:=Zpv (c:=cnd as bs (λ_=>false) false) (ahi:=W0.2.1) (bhi:=W0.2.2.2) (W0.2.1 - (r.1 + r.2.2)).toNat r;have yes:∀ p q,as.getD p.toNat 0=bs.getD q.toNat 0->cnd as bs (λ_=>false) false p q=true:=λp q h=>by unfold cnd;rw[h];simp
 unfold Zfn;refine ⟨Zpw _ _ e1,λh1 h2 h3=>?_,λh1 h2 h3=>m2 ⟨h1,h2,yes _ _ h3⟩⟩;rw[f1]at h1 h3;rw[f2]at h2 h3;exact m1 ⟨h1,h2,yes _ _ h3⟩
end
noncomputable def brk (xs:List Int) (p:Nat):Nat:=if xs.getD (p - 1) 0=xs.getD p 0 then 0 else 1
noncomputable def SB (xs:List Int):Nat->Nat
 | 0=>0
 | n + 1=>SB xs n + brk xs (n + 1)
theorem Zmq (xs:List Int) {p q:Nat} (h:p<=q):SB xs p<=SB xs q:=by
 induction h with
 | refl=>exact Nat.le_refl _
 | step _ ih=>exact Nat.le_trans ih (Nat.le_add_right _ _)
theorem Zrj (xs:List Int) {p q:Nat} (h:p<=q) (hne:xs.getD p 0≠xs.getD q 0):SB xs p + 1<=SB xs q:=by
 induction h with
 | refl=>exact absurd rfl hne
 | @step m hm ih=>
  by_cases e:xs.getD p 0=xs.getD m 0
  .have:brk xs (m + 1)=1:=by unfold brk;rw[Nat.add_sub_cancel,if_neg (by refine e▸?_;exact hne)]
   have:=Zmq xs hm;show SB xs p + 1<=SB xs m + brk xs (m + 1)
   (exact F30 0x790680598506760 0x1110 rfl ‹_› this)
  .exact Nat.le_trans (ih e) (Nat.le_add_right _ _)
noncomputable def neI (x y:Int):Int:=if x=y then 0 else 1
noncomputable def sbI (xs:List Int) (p:Int):Int:=SB xs p.toNat
noncomputable def psi (as bs:List Int) (W0:Win):Int:=
 2 + (sbI as (W0.2.1 - 1) - sbI as W0.1) + (sbI bs (W0.2.2.2 - 1) - sbI bs W0.2.2.1) - neI (as.getD W0.1.toNat 0) (bs.getD W0.2.2.1.toNat 0) - neI (as.getD (W0.2.1 - 1).toNat 0) (bs.getD (W0.2.2.2 - 1).toNat 0)
theorem Zdf (xs:List Int) {p q:Int} (h:p<=q):sbI xs p<=sbI xs q:=Int.ofNat_le.mpr (Zmq xs (Int.toNat_le_toNat h))
theorem Zcd (xs:List Int) {p q:Int} (h:p<=q):sbI xs p + neI (xs.getD p.toNat 0) (xs.getD q.toNat 0)<=sbI xs q:=by
 unfold neI;split
 .have:=Zdf xs h;assumption
 .rename_i hne;have:=Zrj xs (Int.toNat_le_toNat h) hne;unfold sbI;(exact Int.ofNat_lt.mpr ‹_›)
theorem Zfs (x y z:Int):neI x z<=neI x y + neI y z:=by
 unfold neI;by_cases h1:x=y
 .subst h1;split <;> lia
 .rw [if_neg h1];split <;> split <;> (exact Int.natCast_nonneg _)
theorem Zej (x y:Int):neI x y=neI y x:=by
 unfold neI;by_cases h:x=y
 .rw [if_pos h,if_pos h.symm]
 .rw [if_neg h,if_neg (λe=>h e.symm)]
theorem Zpz {x y:Int} (h:x≠y):neI x y=1:=if_neg h
theorem Ziu (x y:Int) : 0<=neI x y/\neI x y<=1:=by unfold neI;split <;> decide
noncomputable def winN (la lb:Int) (W0:Win):Prop:=Zed la lb W0/\W0.1 < W0.2.1/\W0.2.2.1 < W0.2.2.2
theorem Zfa {as bs:List Int}{la lb:Int} {W0:Win} (h:winN la lb W0) : 0<=psi as bs W0:=by have a:=Zdf as (p:=W0.1) (q:=W0.2.1 - 1) (by have:=h.2.1;(exact F02 0x681788770 0x11 rfl this));have b:=Zdf bs (p:=W0.2.2.1) (q:=W0.2.2.2 - 1) (by have:=h.2.2;(exact F02 0x681788770 0x11 rfl this));have c:=Ziu (as.getD W0.1.toNat 0) (bs.getD W0.2.2.1.toNat 0);have d:=Ziu (as.getD (W0.2.1 - 1).toNat 0) (bs.getD (W0.2.2.2 - 1).toNat 0);unfold psi;(exact fk [] [_,_,_,_,_,_] 0xcb9a17812400110486c806b80a9808780 0x11111 rfl a b c.2 d.2)
noncomputable def psis (as bs:List Int) (st:List Win):Int:=(st.map (psi as bs)).sum
theorem Znz {as bs:List Int}{la lb:Int} {W0:Win}{t:Tri} (h:winN la lb W0) (X:Maxi as bs W0 t) (hk : 0 < t.2.2) (h1:W0.1<=t.1) (h2:t.1 + t.2.2<=W0.2.1) (h3:W0.2.2.1<=t.2.1) (h4:t.2.1 + t.2.2<=W0.2.2.2) :
  2 + psis as bs (Zbd W0 t) + psis as bs (Zbp W0 t)<=psi as bs W0:=by
 obtain ⟨alo,ahi,blo,bhi⟩:=W0;obtain ⟨i,j,k⟩:=t;have hl:=X.lo;have hh:=X.hi;have q0:=X.eq 0 (by (exact Int.natCast_nonneg _)) hk;have q1:=X.eq (k - 1) (by have : 0 < k:=hk;(exact F01 0x67104870470 0x11 rfl hk)) (by show k - 1 < k;(exact F01 0x76717 0x1 rfl));dsimp only at *;rw[Int.add_zero,Int.add_zero]at q0;rw[show i + (k - 1)=i + k - 1 from by (exact F02 0x68701681709 0x11 rfl),show j + (k - 1)=j + k - 1 from by lia]at q1;have L:psis as bs (Zbp (alo,ahi,blo,bhi) (i,j,k)) + neI (as.getD alo.toNat 0) (bs.getD blo.toNat 0) + 1<=(sbI as i - sbI as alo) + (sbI bs j - sbI bs blo) + 1:=by
  unfold Zbp;dsimp only;split
  .rename_i hc;have hne:=Zpz (hl hc.1 hc.2);have d1:=Zcd as (p:=i - 1) (q:=i) (by (exact F01 0x76718 0x1 rfl));have d2:=Zcd bs (p:=j - 1) (q:=j) (by lia);have t1:=Zfs (as.getD (i - 1).toNat 0) (as.getD i.toNat 0) (bs.getD (j - 1).toNat 0);rw[Zej (as.getD i.toNat 0),q0]at t1;rw[q0]at d1;show (psi as bs (alo,i,blo,j) + 0) + _ + 1<=_;unfold psi;dsimp only;lia
  .rename_i hc;have d1:=Zcd as (p:=alo) (q:=i) h1;have d2:=Zcd bs (p:=blo) (q:=j) h3;have t1:=Zfs (as.getD alo.toNat 0) (as.getD i.toNat 0) (bs.getD blo.toNat 0);rw[Zej (as.getD i.toNat 0),q0]at t1;rw[q0]at d1;show (0:Int) + _ + 1<=_
   (exact fk [] [_,_,_,_,_,_,_] 0x6ac1791006d04008b80d80cba080987080 0x1111 rfl d1 d2 t1)
 have Rt:psis as bs (Zbd (alo,ahi,blo,bhi) (i,j,k)) + neI (as.getD (ahi - 1).toNat 0) (bs.getD (bhi - 1).toNat 0) + 1<=(sbI as (ahi - 1) - sbI as (i + k - 1)) + (sbI bs (bhi - 1) - sbI bs (j + k - 1)) + 1:=by
  unfold Zbd;dsimp only;split
  .rename_i hc;have hne:=Zpz (hh hc.1 hc.2);have d1:=Zcd as (p:=i + k - 1) (q:=i + k) (by (exact F02 0x870687018 0x1 rfl));have d2:=Zcd bs (p:=j + k - 1) (q:=j + k) (by lia);have t1:=Zfs (as.getD (i + k).toNat 0) (as.getD (i + k - 1).toNat 0) (bs.getD (j + k).toNat 0);rw[Zej (as.getD (i + k).toNat 0) (as.getD (i + k - 1).toNat 0)]at t1;rw[q1]at d1 t1;show (psi as bs (i + k,ahi,j + k,bhi) + 0) + _ + 1<=_;unfold psi;dsimp only;lia
  .rename_i hc;have d1:=Zcd as (p:=i + k - 1) (q:=ahi - 1) (by (exact F03 0x691687018987080 0x11 rfl h2));have d2:=Zcd bs (p:=j + k - 1) (q:=bhi - 1) (by lia);have t1:=Zfs (as.getD (ahi - 1).toNat 0) (as.getD (i + k - 1).toNat 0) (bs.getD (bhi - 1).toNat 0);rw[Zej (as.getD (ahi - 1).toNat 0) (as.getD (i + k - 1).toNat 0)]at t1;rw[q1]at d1 t1;show (0:Int) + _ + 1<=_
   (exact fk [] [_,_,_,_,_,_,_] 0x6ac1791006d04008b80d80cba080987080 0x1111 rfl d1 d2 t1)
 have m1:=Zdf as (p:=i) (q:=i + k - 1) (by (exact F02 0x678018870470 0x11 rfl hk));have m2:=Zdf bs (p:=j) (q:=j + k - 1) (by lia);unfold psi;dsimp only;lia
theorem Zk5 {as bs:List Int}{F:Win->Tri}{la lb:Int} (WK:WOK F la lb) (hF:∀ W0,Maxi as bs W0 (F W0)):∀ n (st:List Win) acc,(∀ W0 ∈ st,winN la lb W0)->2 * ((mbGo F n st acc).length:Int)<=2 * (acc.length:Int) + psis as bs st:=by
 intro r_
 induction r_ with
 | zero=>
  intro st acc hin;have : 0<=psis as bs st:=by
   clear WK hF
   induction st with
   | nil=>exact Int.le_refl _
   | cons W0 st ih=>
    have a:=Zfa (as:=as) (bs:=bs) (hin W0 (.head _));have b:=ih λx hx=>hin x (.tail _ hx);show 0<=psi as bs W0 + psis as bs st
    (exact F02 0x8700488048070480 0x111 rfl a b)
  dsimp only[mbGo];(exact F11 0x7732207322870480 0x11 rfl this)
 | succ n ih=>
  intro l_;cases l_ with
  | nil=>
   intro acc hin;show 2 * (acc.length:Int)<=2 * (acc.length:Int) + 0
   (exact Int.le_refl _)
  | cons W0 st=>
   intro acc hin;have hw:=hin W0 (.head _);have e:psis as bs (W0 :: st)=psi as bs W0 + psis as bs st:=rfl;dsimp only[mbGo];by_cases hk:(F W0).2.2=0
   .rw [if_pos hk];have:=ih st acc λx hx=>hin x (.tail _ hx);have:=Zfa (as:=as) (bs:=bs) hw
    (exact fk [_,_] [_,_,_] 0x7832207322880480983220732280980790 0x11110 rfl e ‹_› this)
   .rw [if_neg hk];have hk' : 0 < (F W0).2.2:=by have:=WK.k0 W0;(exact F01 0x704770480047920 0x101011 rfl hk this)
    refine aD hw.1 λg1 g2 g3 g4 g5 g6=>?_;refine ak (WK.inn W0 g1 g2 g3 g4 g5 g6 hk') λa b c d=>?_;have hs:=Znz hw (hF W0) hk' a b c d;have ih:=ih (Zbd W0 (F W0) ++ (Zbp W0 (F W0) ++ st)) (acc ++ [F W0]) λx hx=>by
     rcases List.mem_append.mp hx with hx | hx
     .refine ⟨(Zb7 WK hw.1 hk' x hx).1,?_⟩;unfold Zbd at hx;split at hx
      .rw [List.mem_singleton]at hx;subst hx;assumption
      .cases hx
     .rcases List.mem_append.mp hx with hx | hx
      .refine ⟨(Zch WK hw.1 hk' x hx).1,?_⟩;unfold Zbp at hx;split at hx
       .rw [List.mem_singleton]at hx;subst hx;assumption
       .cases hx
      .exact hin x (.tail _ hx)
    have e2:psis as bs (Zbd W0 (F W0) ++ (Zbp W0 (F W0) ++ st))=psis as bs (Zbd W0 (F W0)) + (psis as bs (Zbp W0 (F W0)) + psis as bs st):=by unfold psis;rw[List.map_append,List.map_append,List.sum_append,List.sum_append]
    rw[e2,List.length_append,List.length_singleton]at ih
    (exact fk [_,_] [_,_,_,_,_] 0x783220732289b0a068032207322808ba240080980790 0x11110 rfl e hs ih)
theorem Zny (as bs:List Int) (aj:Bool) : 2 * (rawB (flmW as bs aj) as.length bs.length).length<=SB as (as.length - 1) + SB bs (bs.length - 1) + 2:=by
 have WK:=Zh0 as bs aj as.length bs.length;by_cases h : 0 < as.length/\0 < bs.length
 .have:=Zk5 WK (Zlz as bs aj) (wt (0,(as.length:Int),0,(bs.length:Int))) [(0,(as.length:Int),0,(bs.length:Int))] [] λW0 hw=>by rw[List.mem_singleton]at hw;subst hw;exact ⟨⟨by dsimp only;(exact Int.natCast_nonneg _),by dsimp only;(exact Int.natCast_nonneg _),by dsimp only;(exact Int.le_refl _),by dsimp only;(exact Int.natCast_nonneg _),by dsimp only;(exact Int.natCast_nonneg _),by dsimp only;(exact Int.le_refl _)⟩,by dsimp only;(exact F10 0x7304770440 0x11 rfl h.1),by dsimp only;(exact F10 0x7304770440 0x11 rfl h.2)⟩
  have e:psis as bs [(0,(as.length:Int),0,(bs.length:Int))]=psi as bs (0,(as.length:Int),0,(bs.length:Int)) + 0:=rfl;rw[e]at this;have c:=Ziu (as.getD (0:Int).toNat 0) (bs.getD (0:Int).toNat 0);have d:=Ziu (as.getD ((as.length:Int) - 1).toNat 0) (bs.getD ((bs.length:Int) - 1).toNat 0);unfold psi sbI at this;dsimp only at this;replace this:=(show ((bs.length:Int) - 1).toNat=bs.length - 1 from by (exact F10 0x786681a67313a 0x1000110100100011101011010101001011011001 rfl))▸(show ((as.length:Int) - 1).toNat=as.length - 1 from by (exact F10 0x786681a67313a 0x1000110100100011101011010101001011011001 rfl))▸this;unfold rawB;simp only[List.length_nil]at this;have z1:SB as (0:Int).toNat=0:=rfl;have z2:SB bs (0:Int).toNat=0:=rfl;rw[show ((as.length:Int) - 1).toNat=as.length - 1 from by lia,show ((bs.length:Int) - 1).toNat=bs.length - 1 from by lia]at d
  (exact fk [_,_,_,_,_] [_,_] 0x24a800722504b600496080480704800487b3a31938312400110043220732280 0x11010111 rfl this c.1 d.1 z1 z2)
 .have hk:(flmW as bs aj (0,(as.length:Int),0,(bs.length:Int))).2.2=0:=by
   refine Classical.byContradiction λhk=>?_;have hk' : 0 < (flmW as bs aj (0,(as.length:Int),0,(bs.length:Int))).2.2:=by have:=WK.k0 (0,(as.length:Int),0,(bs.length:Int));(exact F01 0x704770480047920 0x101011 rfl hk this)
   refine ak (WK.inn (0,(as.length:Int),0,(bs.length:Int)) (by dsimp only;(exact Int.natCast_nonneg _)) (by dsimp only;(exact Int.natCast_nonneg _)) (by dsimp only;(exact Int.le_refl _)) (by dsimp only;(exact Int.natCast_nonneg _)) (by dsimp only;(exact Int.natCast_nonneg _)) (by dsimp only;(exact Int.le_refl _)) hk') λa b c d=>?_;dsimp only at a b c d;lia
  unfold rawB;have e:wt (0,(as.length:Int),0,(bs.length:Int))=2 * as.length + 1:=by unfold wt;dsimp only;(exact Int.toNat_natCast _)
  refine e▸?_;dsimp only[mbGo];rw[if_pos hk];have e0:∀ n,mbGo (flmW as bs aj) n [] []=[]:=λn=>by cases n <;> rfl
  rw[e0];exact Nat.zero_le _
/-! codes: equal ones are even,and no longer than the first list -/
theorem Ze9 {P:Op->Prop} (hP:∀ i j k,P ("equal",i,i + k,j,j + k)) (hQ:∀ t i i' j j',t ≠ "equal" -> P (t,i,i',j,j')):∀ (bl:List Tri) (st:CSt),(∀ o ∈ st.2.2,P o)->∀ o ∈ (bl.foldl stepC st).2.2,P o
 | [],st,h=>h
 | b :: bl,st,h=>by
  dsimp only[List.foldl_cons];refine Ze9 hP hQ bl _ λo ho=>?_;unfold stepC at ho;dsimp only at ho;rcases List.mem_append.mp ho with ho | ho
  .exact h o ho
  .rcases List.mem_append.mp ho with ho | ho
   .split at ho
    .cases ho
    .rw [List.mem_singleton]at ho;subst ho;refine hQ _ _ _ _ _ ?_;unfold Zcm;split <;> split <;> decide
   .split at ho
    .cases ho
    .rw [List.mem_singleton]at ho;subst ho;exact hP _ _ _
theorem Zjs (as bs:List Int) (aj:Bool):∀ o ∈ codesF as bs aj,Even o:=
 Ze9 (P:=Even) (λi j k _=>by show i + k - i=j + k - j;(exact F03 0x98901787019 0x11 rfl)) (λt i i' j j' ht e=>absurd e ht) _ _ λo ho=>by cases ho
theorem Zgi {n:Int}:∀ (bl:List Tri) (st:CSt),(∀ t ∈ bl,t.2.2<=n)->(∀ o ∈ st.2.2,o.1 = "equal" -> o.2.2.1 - o.2.1<=n)->∀ o ∈ (bl.foldl stepC st).2.2,o.1 = "equal" -> o.2.2.1 - o.2.1<=n
 | [],st,_,h=>h
 | b :: bl,st,hb,h=>by
  dsimp only[List.foldl_cons];refine Zgi bl _ (λt ht=>hb t (.tail _ ht)) λo ho=>?_;unfold stepC at ho;dsimp only at ho;rcases List.mem_append.mp ho with ho | ho
  .exact h o ho
  .rcases List.mem_append.mp ho with ho | ho
   .split at ho
    .cases ho
    .rw [List.mem_singleton]at ho;subst ho;intro e;have:Zcm st.1 b.1 st.2.1 b.2.1 ≠ "equal" := by unfold Zcm;split <;> split <;> decide
     exact absurd e this
   .split at ho
    .cases ho
    .rw [List.mem_singleton]at ho;subst ho;intro _;have:=hb b (.head _);show b.1 + b.2.2 - b.1<=n;(exact F03 0x89790188780 0x11 rfl this)
theorem Zht {F:Win->Tri}{la lb:Int} (K:WOK F la lb):∀ n (st:List Win) acc,(∀ W0 ∈ st,Zed la lb W0)->(∀ t ∈ acc,0<=t.1/\0<=t.2.2/\t.1 + t.2.2<=la)->∀ t ∈ mbGo F n st acc,0<=t.1/\0<=t.2.2/\t.1 + t.2.2<=la
 | 0,st,acc,_,h=>by cases st <;> exact h
 | n + 1,[],acc,_,h=>by rw[Zsl];exact h
 | n + 1,W0 :: st,acc,hw,h=>by
  dsimp only[Ziw];by_cases hk:(F W0).2.2=0
  .rw [if_pos hk];exact Zht K n st acc (λx hx=>hw x (.tail _ hx)) h
  .rw [if_neg hk];have hk' : 0 < (F W0).2.2:=by have:=K.k0 W0;(exact F01 0x704770480047920 0x101011 rfl hk this)
   refine aD (hw W0 (.head _)) λh1 h2 h3 h4 h5 h6=>?_;refine ak (K.inn W0 h1 h2 h3 h4 h5 h6 hk') λa b c d=>?_;refine Zht K n _ _ (λx hx=>?_) λt ht=>?_
   .rcases List.mem_append.mp hx with hx | hx
    .exact (Zb7 K (hw W0 (.head _)) hk' x hx).1
    .rcases List.mem_append.mp hx with hx | hx
     .exact (Zch K (hw W0 (.head _)) hk' x hx).1
     .exact hw x (.tail _ hx)
   .rcases List.mem_append.mp ht with ht | ht
    .exact h t ht
    .rw [List.mem_singleton]at ht;subst ht;lia
noncomputable abbrev InA (la:Int) (t:Tri):Prop:=0<=t.1/\0<=t.2.2/\t.1 + t.2.2<=la
theorem Zil {la:Int}:∀ (bl:List Tri) (st:MSt),(∀ t ∈ bl,InA la t)->InA la st.1->(∀ t ∈ st.2,InA la t)->InA la (bl.foldl stepM st).1/\(∀ t ∈ (bl.foldl stepM st).2,InA la t)/\(bl.foldl stepM st).2.length<=st.2.length + bl.length
 | [],st,_,h1,h2=>⟨h1,h2,Nat.le_refl _⟩
 | b :: bl,st,hb,h1,h2=>by
  dsimp only[List.foldl_cons];have hb0:=hb b (.head _);have key:InA la (stepM st b).1/\(∀ t ∈ (stepM st b).2,InA la t)/\(stepM st b).2.length<=st.2.length + 1:=by
   unfold stepM;split
   .rename_i e;exact ⟨⟨h1.1,by show 0<=st.1.2.2 + b.2.2;have:=h1.2.1;have:=hb0.2.1;lia,by show st.1.1 + (st.1.2.2 + b.2.2)<=la;have:=hb0.2.2;(exact F05 0xba80708ba9080987090 0x1101 rfl e.1 this)⟩,h2,Nat.le_succ _⟩
   .refine ⟨hb0,λt ht=>?_,?_⟩
    .dsimp only at ht;split at ht
     .exact h2 t ht
     .rcases List.mem_append.mp ht with ht | ht
      .exact h2 t ht
      .rw [List.mem_singleton]at ht;subst ht;exact h1
    .dsimp only;split <;> simp
  obtain ⟨a,b',c⟩:=Zil bl _ (λt ht=>hb t (.tail _ ht)) key.1 key.2.1;exact ⟨a,b',by have:=key.2.2;simp only[List.length_cons];(exact F40 0x6a08095a70950680750 0x111 rfl key.2.2 c)⟩
theorem Zk6 (as bs:List Int) (aj:Bool):(∀ t ∈ mbF (flmW as bs aj) as.length bs.length,InA as.length t)/\(mbF (flmW as bs aj) as.length bs.length).length<=(rawB (flmW as bs aj) as.length bs.length).length + 2:=by
 have WK:=Zh0 as bs aj as.length bs.length;have hr:∀ t ∈ Zgk (rawB (flmW as bs aj) as.length bs.length),InA as.length t:=λt ht=>by refine Zht WK _ _ _ (λW0 hw=>?_) (λt ht=>by cases ht) t ((Zc2 _).mem_iff.mp ht);rw[List.mem_singleton]at hw;subst hw;exact ⟨by dsimp only;(exact Int.natCast_nonneg _),by dsimp only;(exact Int.natCast_nonneg _),by dsimp only;(exact Int.le_refl _),by dsimp only;(exact Int.natCast_nonneg _),by dsimp only;(exact Int.natCast_nonneg _),by dsimp only;(exact Int.le_refl _)⟩
 have hl:(Zgk (rawB (flmW as bs aj) as.length bs.length)).length=(rawB (flmW as bs aj) as.length bs.length).length:=(Zc2 _).length_eq;refine au (Zil (la:=as.length) (Zgk (rawB (flmW as bs aj) as.length bs.length)) ((0,0,0),[]) hr ⟨by show (0:Int)<=0;(exact Int.natCast_nonneg _),by show (0:Int)<=0;(exact Int.natCast_nonneg _),by show (0:Int) + 0<=_;(exact Int.natCast_nonneg _)⟩ λt ht=>by cases ht) λa b c=>?_
 delta mbF Zp0 stM;refine List.take_length▸?_;refine ⟨λt ht=>?_,?_⟩
 .rcases List.mem_append.mp ht with ht | ht
  .split at ht
   .exact b t ht
   .rcases List.mem_append.mp ht with ht | ht
    .exact b t ht
    .rw [List.mem_singleton]at ht;subst ht;exact a
  .rw [List.mem_singleton]at ht;subst ht;exact ⟨by dsimp only;(exact Int.natCast_nonneg _),by dsimp only;(exact Int.natCast_nonneg _),by dsimp only;(exact Int.le_refl _)⟩
 .refine List.length_append▸?_;rw[hl]at c;simp only[List.length_nil]at c;split <;> simp <;> (first | exact F20 0x680758040750 0x11 rfl c | exact F20 0x8758040750 0x11 rfl c)
theorem Zjr (as bs:List Int) (aj:Bool):∀ o ∈ codesF as bs aj,o.1 = "equal" -> o.2.2.1 - o.2.1<=as.length:=
 Zgi _ _ (λt ht=>by have:=(Zk6 as bs aj).1 t ht;have h1:=this.1;have h2:=this.2.2;(exact F12 0x7388738708070480 0x111 rfl h1 h2)) λo ho=>by cases ho
theorem Zmd (as bs:List Int) (aj:Bool):(codesF as bs aj).length<=2 * (rawB (flmW as bs aj) as.length bs.length).length + 4:=by have:=Zky (mbF (flmW as bs aj) as.length bs.length);have h2:=(Zk6 as bs aj).2;unfold codesF;(exact F30 0x449220752490850822750 0x121 rfl this h2)
/-! what the law compares -/
theorem Zhw {n:Int}{o:Op} (h:Even o):Even (hT n o):=by
 obtain ⟨t,i1,i2,j1,j2⟩:=o;delta Even hT at *;dsimp only at h ⊢;by_cases e:t = "equal"
 .have:=h e;refine (if_pos e)▸?_;intro _;show i2 - imax i1 (i2 - n)=j2 - imax j1 (j2 - n);unfold imax;split <;> split <;> lia
 .refine (if_neg e)▸?_;intro e';exact absurd e' e
theorem Zlj {n:Int}{o:Op} (h:Even o):Even (lT n o):=by
 obtain ⟨t,i1,i2,j1,j2⟩:=o;delta Even lT at *;dsimp only at h ⊢;by_cases e:t = "equal"
 .have:=h e;refine (if_pos e)▸?_;intro _;show imin i2 (i1 + n) - i1=imin j2 (j1 + n) - j1;unfold imin;split <;> split <;> lia
 .refine (if_neg e)▸?_;intro e';exact absurd e' e
noncomputable abbrev AllE (l:List Op):Prop:=∀ o ∈ l,Even o
theorem Zlr {n:Int}{l:List Op} (h:AllE l):AllE (headTrim n l):=by
 cases l with
 | nil=>exact h
 | cons o l=>
  rw[headTrim_cons,headTrim_one];intro p hp;rcases List.mem_cons.mp hp with rfl | hp
  .exact Zhw (h o (.head _))
  .exact h p (.tail _ hp)
theorem Zli {n:Int}{l:List Op} (h:AllE l):AllE (lastTrim n l):=by
 rcases List.eq_nil_or_concat l with e | ⟨l',p,e⟩
 .subst e;intro o ho;cases ho
 .rw [List.concat_eq_append]at e;subst e;rw[lastTrim_snoc,lastTrim_one];intro o ho;rcases List.mem_append.mp ho with ho | ho
  .exact h o (List.mem_append_left _ ho)
  .rw [List.mem_singleton]at ho;subst ho;exact Zlj (h p (List.mem_append_right _ (.head _)))
theorem Zea {n:Int}{l:List Op} (h:AllE l):AllE (Za3 n l):=by
 refine Zli (Zlr ?_);split
 .intro o ho;rw[List.mem_singleton]at ho;subst ho;intro _;rfl
 .exact h
theorem Zh5 (n:Int) (l:List Op):(Za3 n l).length<=l.length + 1:=by
 unfold Za3;rw[lastTrim_len,headTrim_len];split
 .simp
 ·(exact Nat.le_succ _)
structure GOk (st:GSt) (k:Nat):Prop where
 e:∀ g ∈ st.1,AllE g
 n:∀ g ∈ st.1,g≠[]
 c:AllE st.2
 l:st.1.length<=k
 gl:∀ g ∈ st.1,g.length<=k
 cl:st.2.length<=k
theorem Zno {n:Int}{st:GSt}{o:Op}{k:Nat} (h:GOk st k) (ho:Even o):GOk (Zbm n st o) (k + 1):=by
 obtain ⟨t,i1,i2,j1,j2⟩:=o;unfold Zbm;by_cases hc:t = "equal" /\ i2 - i1 > n + n
 .rw [if_pos hc];have e1:Even (t,i1,imin i2 (i1 + n),j1,imin j2 (j1 + n)):=by
   have:=Zlj (n:=n) ho;unfold lT at this;dsimp only at this
   rwa [if_pos hc.1]at this
  have e2:Even (t,imax i1 (i2 - n),i2,imax j1 (j2 - n),j2):=by
   have:=Zhw (n:=n) ho;unfold hT at this;dsimp only at this
   rwa [if_pos hc.1]at this
  refine ⟨λg hg=>?_,λg hg=>?_,λp hp=>?_,?_,λg hg=>?_,?_⟩
  .rcases List.mem_append.mp hg with hg | hg
   .exact h.e g hg
   .rw [List.mem_singleton]at hg;subst hg;intro p hp;rcases List.mem_append.mp hp with hp | hp
    .exact h.c p hp
    .rw [List.mem_singleton]at hp;subst hp;exact e1
  .rcases List.mem_append.mp hg with hg | hg
   .exact h.n g hg
   .rw [List.mem_singleton]at hg;subst hg;simp
  .rw [List.mem_singleton]at hp;subst hp;exact e2
  .have:=h.l;simp;omega
  .rcases List.mem_append.mp hg with hg | hg
   .have:=h.gl g hg;(exact F20 0x680758750 0x11 rfl this)
   .rw [List.mem_singleton]at hg;subst hg;have:=h.cl;simp;omega
  .simp
 .rw [if_neg hc];refine ⟨h.e,h.n,λp hp=>?_,Nat.le_succ_of_le h.l,λg hg=>Nat.le_succ_of_le (h.gl g hg),?_⟩
  .rcases List.mem_append.mp hp with hp | hp
   .exact h.c p hp
   .rw [List.mem_singleton]at hp;subst hp;exact ho
  .have:=h.cl;simp;omega
theorem Zlw {n:Int}:∀ (l:List Op) (st:GSt) (k:Nat),GOk st k->AllE l->GOk (l.foldl (Zbm n) st) (k + l.length)
 | [],st,k,h,_=>h
 | o :: l,st,k,h,ha=>by dsimp only[List.foldl_cons];have:=Zlw (n:=n) l _ (k + 1) (Zno (n:=n) h (ha o (.head _))) λp hp=>ha p (.tail _ hp);rw[List.length_cons,Nat.add_comm l.length 1,<-Nat.add_assoc];exact this
theorem Zdk {n:Int}{l:List Op} (h:AllE l):(∀ g ∈ Zaw n l,AllE g/\g≠[]/\g.length<=l.length + 1)/\(Zaw n l).length<=l.length + 2:=by
 have H:=Zlw (n:=n) (Za3 n l) ([],[]) 0 ⟨λg hg=>(by cases hg),λg hg=>(by cases hg),λo ho=>(by cases ho),Nat.le_refl _,λg hg=>(by cases hg),Nat.le_refl _⟩ (Zea h);have hl:=Zh5 n l;dsimp only[groupsOf_Gf];unfold Gf;dsimp only;rw[Nat.zero_add]at H;generalize (Za3 n l).foldl (Zbm n) ([],[])=st at H;have h1:=H.l;split
 .exact ⟨λg hg=>⟨H.e g hg,H.n g hg,Nat.le_trans (H.gl g hg) hl⟩,by (exact F30 0x2480957950680750 0x111 rfl hl h1)⟩
 .rename_i hc;refine ⟨λg hg=>?_,by rw[List.length_append];simp;(exact Nat.le_trans ‹_› ‹_›)⟩;rcases List.mem_append.mp hg with hg | hg
  .exact ⟨H.e g hg,H.n g hg,Nat.le_trans (H.gl g hg) hl⟩
  .rw [List.mem_singleton]at hg;subst hg;exact ⟨H.c,λe=>hc (.inl e),Nat.le_trans H.cl hl⟩
theorem Zi0 {k:Int}{gs:List (List Op)} (h:∀ g ∈ gs,AllE g):hdG (hL k) gs=hdG (hT k) gs/\∀ g ∈ hdG (hT k) gs,AllE g:=by
 match gs,h with
 | [],h=>exact ⟨rfl,h⟩
 | [] :: r,h=>exact ⟨rfl,h⟩
 | (o :: g) :: r,h=>
  refine ⟨?_,λg' hg'=>?_⟩
  .show (hL k o :: g) :: r=(hT k o :: g) :: r;rw[Zuk (h _ (.head _) o (.head _))]
  .rcases List.mem_cons.mp hg' with rfl | hg'
   .intro p hp;rcases List.mem_cons.mp hp with rfl | hp
    .exact Zhw (h _ (.head _) o (.head _))
    .exact h _ (.head _) p (.tail _ hp)
   .exact h g' (.tail _ hg')
theorem Zoi {k:Int}{gs:List (List Op)} (h:∀ g ∈ gs,AllE g):lsG (lL k) gs=lsG (lT k) gs:=by
 unfold lsG;cases e:gs.getLast? with
 | none=>rfl
 | some g=>
  dsimp only;cases e2:g.getLast? with
  | none=>rfl
  | some p=>
   dsimp only;rw[Zug (h g (List.mem_of_getLast? e) p (List.mem_of_getLast? e2))]
theorem Zew {k:Int}{gs:List (List Op)} (h:∀ g ∈ gs,AllE g) (hne:∀ g ∈ gs,g≠[]):Zdu k gs=Zng k gs:=by
 unfold Zdu;by_cases hz:gs=[]
 .rw [if_pos (.inl hz),hz];rfl
 .have h2:gs.head?≠some []:=λe=>by
   cases gs with
   | nil=>exact hz rfl
   | cons g r=>injection e with e;exact hne g (.head _) e
  rw[if_neg (λh=>h.elim hz h2)];unfold Zng;(rw[(Zi0 h).1];exact (Zoi (Zi0 h).2))
theorem Zdi {k:Int}{l:List Op} (h:l≠[]):Zbf k l≠[]/\Zbf k l=Za3 k l:=by
 have e:Zbf k l=Za3 k l:=by unfold Zbf;exact (if_neg h)
 refine ⟨λhz=>?_,e⟩;have:(Za3 k l).length=l.length:=by unfold Za3;rw[lastTrim_len,headTrim_len,if_neg h]
 rw[<-e,hz]at this;exact h (List.length_eq_zero_iff.mp this.symm)
theorem Zjl {n k:Int}{codes:List Op} (h0 : 0<=k) (hn : 0<=n) (he:AllE codes):Zaw n (Zbf k codes)=Zdu (imin n k) (Zaw n codes):=by
 rw[Zew (λg hg=>((Zdk he).1 g hg).1) λg hg=>((Zdk he).1 g hg).2.1];by_cases hz:codes=[]
 .subst hz;have e:Zbf k []=[]:=by unfold Zbf;exact (if_pos rfl)
  rw[e];have g0:Zaw n []=[]:=by
   dsimp only[groupsOf_Gf];have hc:Za3 n []=[lT n (hT n ("equal",0,1,0,1))]:=by unfold Za3;rw[if_pos rfl,headTrim_one,lastTrim_one]
   rw[hc];have hs:=Zfx hn (Int.le_refl n) (hT n ("equal",0,1,0,1));unfold Gf;rw[List.foldl_cons,List.foldl_nil,Zcn hs];dsimp only;have h2:(lT n (hT n ("equal",0,1,0,1))).1 = "equal" := rfl;exact if_pos (.inr ⟨rfl,congrArg some h2⟩)
  rw[g0];rfl
 .have h1:=Zdi (k:=k) hz;have h2:=Zdi (k:=n) h1.1;have h3:=Zdi (k:=n) hz;rw[groupsOf_Gf,groupsOf_Gf,<-h2.2,<-h3.2,keptC_keptC];exact Zrn (by unfold imin;split <;> omega) (by unfold imin;split <;> (first | exact F02 0x8788770 0x11 rfl ‹_› | exact F01 0x778 0x1 rfl)) codes
theorem Zlh {k:Int}{codes:List Op} (he:AllE codes):Zdu k [codes]=[Zbf k codes]:=by
 by_cases hz:codes=[]
 .subst hz;delta Zdu Zbf;rw[if_pos (.inr rfl),if_pos rfl]
 .rw [Zew (λg hg=>by rw[List.mem_singleton]at hg;subst hg;exact he) λg hg=>by rw[List.mem_singleton]at hg;subst hg;exact hz];cases codes with
  | nil=>exact absurd rfl hz
  | cons o l=>
   rcases List.eq_nil_or_concat l with e | ⟨l',p,e⟩
   .subst e;rw[keptC_one];show lsG (lT k) ([] ++ [[] ++ [hT k o]])=_;rw[lsG_snoc];show [[lT k (hT k o)]]=_;rw[Zsz]
   .rw [List.concat_eq_append]at e;subst e;rw[keptC_more];show lsG (lT k) ([] ++ [(hT k o :: l') ++ [p]])=_;rw[lsG_snoc];rfl
theorem Zon {n:Int}{codes:List Op} (he:AllE codes) (hs:∀ o ∈ codes,o.1 = "equal" -> o.2.2.1 - o.2.1<=n):Zbf n codes=codes:=by
 have hh:∀ o ∈ codes,hT n o=o:=λo ho=>by
  obtain ⟨t,i1,i2,j1,j2⟩:=o;unfold hT;dsimp only;by_cases e:t = "equal"
  .have h1:=hs _ ho e;have h2:=he _ ho e;dsimp only at h1 h2;rw[if_pos e];unfold imax;rw[if_neg (by (exact F03 0x971872987180 0x11 rfl h1)),if_neg (by (exact F05 0x9a1b72ba187190987180 0x1101 rfl h1 h2))]
  .exact (if_neg e)
 have hl:∀ o ∈ codes,lT n o=o:=λo ho=>by
  obtain ⟨t,i1,i2,j1,j2⟩:=o;unfold lT;dsimp only;by_cases e:t = "equal"
  .have h1:=hs _ ho e;have h2:=he _ ho e;dsimp only at h1 h2;rw[if_pos e];unfold imin;rw[if_neg (by (exact F03 0x798072987180 0x11 rfl h1)),if_neg (by (exact F05 0xa9b072ba187190987180 0x1101 rfl h1 h2))]
  .exact (if_neg e)
 cases codes with
 | nil=>unfold Zbf;exact (if_pos rfl)
 | cons o l=>
  rcases List.eq_nil_or_concat l with e | ⟨l',p,e⟩
  .subst e;rw[keptC_one,hh o (.head _)]
  .rw [List.concat_eq_append]at e;subst e;rw[keptC_more,hh o (.head _),hl p (by simp)]
/-! lists laid in stretches of one item each -/
noncomputable def flat (L:List (Int × Nat)):List Int:=(L.map λp=>List.replicate p.2 p.1).flatten
noncomputable def Blk (k:Nat) (as:List Int):Prop:=∃ L:List (Int × Nat),L.length<=k/\(∀ p ∈ L,p.2<=8)/\as=flat L
theorem flat_app (L M:List (Int × Nat)):flat (L ++ M)=flat L ++ flat M:=by unfold flat;(rw[List.map_append];exact List.flatten_append)
theorem flat_one (p:Int × Nat):flat [p]=List.replicate p.2 p.1:=by unfold flat;simp
theorem Blk.nil:Blk 0 []:=⟨[],Nat.le_refl _,λp hp=>(by cases hp),rfl⟩
theorem Blk.more {k:Nat}{as:List Int} (h:Blk k as):Blk (k + 1) as:=by refine ae h λL h1 h2 h3=>?_;exact ⟨L,Nat.le_succ_of_le h1,h2,h3⟩
theorem Blk.snoc {k:Nat}{as:List Int} (h:Blk k as) (x:Int) {c:Nat} (hc:c<=8):Blk (k + 1) (as ++ List.replicate c x):=by
 refine ae h λL h1 h2 V=>?_;subst V;refine ⟨L ++ [(x,c)],by rw[List.length_append];exact Nat.succ_le_succ h1,λp hp=>?_,by rw[flat_app,flat_one]⟩;rcases List.mem_append.mp hp with hp | hp
 .exact h2 p hp
 .rw [List.mem_singleton]at hp;subst hp;exact hc
theorem Zi1:∀ L:List (Int × Nat),(flat L).reverse=flat L.reverse
 | []=>rfl
 | p :: L=>by rw[List.reverse_cons,flat_app,flat_one,<-Zi1 L];show (List.replicate p.2 p.1 ++ flat L).reverse=_;rw[List.reverse_append,List.reverse_replicate]
theorem Blk.rev {k:Nat}{as:List Int} (h:Blk k as):Blk k as.reverse:=by refine ae h λL h1 h2 V=>?_;subst V;exact ⟨L.reverse,by rw[List.length_reverse];exact h1,λp hp=>h2 p (List.mem_reverse.mp hp),Zi1 L⟩
theorem Zi3:∀ L:List (Int × Nat),(∀ p ∈ L,p.2<=8)->(flat L).length<=8 * L.length
 | [],_=>Nat.zero_le _
 | p :: L,h=>by have ih:=Zi3 L λq hq=>h q (.tail _ hq);have hp:=h p (.head _);show (List.replicate p.2 p.1 ++ flat L).length<=_;rw[List.length_append,List.length_replicate,List.length_cons];(exact F30 0x68082790584950882750 0x111 rfl ih hp)
theorem Blk.len {k:Nat}{as:List Int} (h:Blk k as):as.length<=8 * k:=by refine ae h λL h1 h2 V=>?_;subst V;have:=Zi3 L h2;(exact F30 0x882957829508750 0x118 rfl h1 this)
theorem Zi2 {x:Int}:∀ L:List (Int × Nat),x ∈ flat L->x ∈ L.map (·.1)
 | [],h=>by cases h
 | p :: L,h=>by
  have h':x ∈ List.replicate p.2 p.1 ++ flat L:=h;rcases List.mem_append.mp h' with h' | h'
  .rw [List.eq_of_mem_replicate h'];exact .head _
  .exact .tail _ (Zi2 L h')
theorem Blk.few {k:Nat}{as:List Int} (h:Blk k as) (hk:k<=61) (aj:Bool):Few as aj:=by
 refine ae h λL h1 h2 V=>?_;subst V;refine .inr (.inr ⟨L.map (·.1),by rw[List.length_map];(exact Nat.le_trans ‹_› ‹_›),λx hx=>Zi2 L ?_⟩);have hl : 0 < (idxN (flat L) x).length:=by (exact F20 0x8044867040 0x11 rfl hx)
 cases e:idxN (flat L) x with
 | nil=>rw[e]at hl;cases hl
 | cons i r=>
  have hi:i ∈ idxN (flat L) x:=by rw[e];exact .head _
  unfold idxN at hi;have:=(List.mem_filter.mp hi).2;exact List.mem_of_getElem? (by simpa using this)
/-! breaks -/
theorem Zre {as cs:List Int}{p:Nat} (h:p < as.length):brk (as ++ cs) p=brk as p:=by unfold brk;rw[List.getD_eq_getElem?_getD,List.getD_eq_getElem?_getD,List.getElem?_append_left h,List.getElem?_append_left (by (exact Nat.sub_lt_of_lt ‹_›)),<-List.getD_eq_getElem?_getD,<-List.getD_eq_getElem?_getD]
theorem Zqa {as cs:List Int}:∀ {p:Nat},p < as.length->SB (as ++ cs) p=SB as p
 | 0,_=>rfl
 | p + 1,h=>by show SB (as ++ cs) p + brk (as ++ cs) (p + 1)=SB as p + brk as (p + 1);rw[Zqa (Nat.lt_of_succ_lt h),Zre h]
theorem Zth (xs:List Int) (p:Nat):brk xs p<=1:=by unfold brk;split <;> decide
theorem Zp9 {as:List Int}{x:Int}{c:Nat}:∀ k:Nat,k < c->SB (as ++ List.replicate c x) (as.length + k)<=(if as=[] then 0 else SB as (as.length - 1) + 1)
 | 0,hc=>by
  by_cases e:as=[]
  .subst e;exact Nat.zero_le _
  .rw [if_neg e];obtain ⟨n,hn⟩:∃ n,as.length=n + 1:=by
    cases as with
    | nil=>exact absurd rfl e
    | cons a r=>exact ⟨r.length,rfl⟩
   rw[Nat.add_zero,hn];show SB (as ++ List.replicate c x) n + brk _ (n + 1)<=SB as (n + 1 - 1) + 1;rw[Zqa (by (exact F20 0x784680760 0x110 rfl hn)),Nat.add_sub_cancel];have:=Zth (as ++ List.replicate c x) (n + 1);(exact F20 0x68078056750 0x11 rfl this)
 | k + 1,hc=>by
  have ih:=Zp9 (as:=as) (x:=x) k (Nat.lt_of_succ_lt hc);show SB (as ++ List.replicate c x) (as.length + k) + brk (as ++ List.replicate c x) (as.length + k + 1)<=_;have g:∀ j,j < c->(as ++ List.replicate c x).getD (as.length + j) 0=x:=λj hj=>by rw[List.getD_eq_getElem?_getD,List.getElem?_append_right (by (exact Nat.le_add_right _ _)),Nat.add_sub_cancel_left,List.getElem?_replicate,if_pos hj];rfl
  have hz:brk (as ++ List.replicate c x) (as.length + k + 1)=0:=by unfold brk;(rw[Nat.add_sub_cancel,Nat.add_assoc,g k (by (exact Nat.lt_of_succ_lt ‹_›)),g (k + 1) hc];exact (if_pos rfl))
  rw[hz,Nat.add_zero];exact ih
theorem Zh9:∀ (n:Nat) (L:List (Int × Nat)),L.length=n->flat L≠[]->SB (flat L) ((flat L).length - 1) + 1<=n
 | 0,L,h,hne=>by have:L=[]:=List.length_eq_zero_iff.mp h;subst this;exact absurd rfl hne
 | n + 1,L,h,hne=>by
  rcases List.eq_nil_or_concat L with e | ⟨L',p,e⟩
  .subst e;cases h
  .rw [List.concat_eq_append]at e;subst e;rw[List.length_append]at h;have hl:L'.length=n:=by simpa using h
   rw[flat_app,flat_one]at hne ⊢;by_cases hc:p.2=0
   .rw [hc]at hne ⊢;rw[List.replicate_zero,List.append_nil]at hne ⊢;have:=Zh9 n L' hl hne;(exact Nat.lt_succ_of_lt ‹_›)
   .have h2:=Zp9 (as:=flat L') (x:=p.1) (c:=p.2) (p.2 - 1) (by (exact F10 0x874048620671a 0x1101010010101010 rfl hc));refine List.length_append▸List.length_replicate▸(show (flat L').length + p.2 - 1=(flat L').length + (p.2 - 1) from by (exact F20 0x7a086049620681a67801a 0x100001110110010000010000100001101010100001101010101010110101010000010000100110101001100110101001 rfl hc))▸?_;by_cases e:flat L'=[]
    .rw [if_pos e]at h2;(exact F20 0x680670504750 0x11 rfl h2)
    .rw [if_neg e]at h2;have:=Zh9 n L' hl e;(exact F30 0x6906705968050680750 0x111 rfl h2 this)
theorem Blk.runs {k:Nat}{as:List Int} (h:Blk k as):SB as (as.length - 1)<=k - 1:=by
 refine ae h λL h1 h2 V=>?_;subst V;by_cases e:flat L=[]
 .refine e▸?_;exact Nat.zero_le _
 .have:=Zh9 L.length L rfl e;(exact F30 0x7a586a0509850680a 0x11101 rfl h1 this)
structure Two (as bs:List Int) (aj:Bool):Prop where
 la:as.length<=488
 lb:bs.length<=488
 fa:Few as aj
 fb:Few bs aj
 raw:(rawB (flmW as bs aj) as.length bs.length).length < 64
 res:(mbF (flmW as bs aj) as.length bs.length).length<=200
 len:(codesF as bs aj).length<=150
 even:AllE (codesF as bs aj)
 size:∀ o ∈ codesF as bs aj,o.1 = "equal" -> o.2.2.1 - o.2.1<=as.length
theorem Zev {as bs:List Int} (ha:Blk 61 as) (hb:Blk 61 bs) (aj:Bool):Two as bs aj:=by have r:=Zny as bs aj;have h1:=ha.runs;have h2:=hb.runs;have h3:=(Zk6 as bs aj).2;have h4:=Zmd as bs aj;exact ⟨ha.len,hb.len,ha.few (Nat.le_refl _) aj,hb.few (Nat.le_refl _) aj,by (exact F30 0x405847a50795024a9008225063d50a 0x211120 rfl r h1 h2),by (exact F40 0xc85b52480b507a50795024a9008225063d50a 0x2211120 rfl r h1 h2 h3),by (exact F40 0x965b5448220b507a50795024a9008225063d50a 0x1111120 rfl r h1 h2 h4),Zjs as bs aj,Zjr as bs aj⟩
noncomputable abbrev vEnv (L:Addr):Env:=callEnvC fdLaw L 258
noncomputable def vS (i:Nat):Stmt:=(Za7 (topS PW 8)).getD i (.Pass default)
noncomputable def vB (i:Nat):Stmt:=(kids (vS 5)).getD i (.Pass default)
theorem Zqq (n:Nat) (x:Int):(List.replicate n [AV.int x]).flatten=(List.replicate n x).map .int:=by
 induction n with
 | zero=>rfl
 | succ n ih=>rw[List.replicate_succ,List.flatten_cons,ih,List.replicate_succ];rfl
section
variable {A:Around}{E:ET}{B:Shared}{m:Loc}{hp:Hp}{L aA bA:Addr}{KK:QX}
theorem Zr1 {o e1 e2:Expr}{xs:List Int}{item size:Int}{Q:QV} {p2 p4 p8 p9:Pos}{pl:Sem Bool} (hx:hp aA=some (.list (xs.map .int))) (hL:aA≠L) (hl:xs.length<=480) (h0 : 0<=size) (h7:size<=7)
  (g1:∀ Q,Q (.ref aA) hp->EV (model PW W0) A E B (vEnv L) o m hp Q) (g2:∀ Q,Q (.int item) hp->EV (model PW W0) A E B (vEnv L) e1 m hp Q) (g3:∀ hp' Q,Q (.int (size + 1)) hp'->EV (model PW W0) A E B (vEnv L) e2 m hp' Q)
  (hK:∀ hp',hp' aA=some (.list ((xs ++ List.replicate (size + 1).toNat item).map .int))->(∀ z o,z≠aA->hp z=some o->hp' z=some o)->Q .none hp')
  (hc:eval (.Call (.Attribute o (S "extend") p2) [.BinOp (.List [e1] p4) .Mult e2 p8] [] p9) (vEnv L)=(do
   let ov <-eval o (vEnv L)
   standAt p2.atName
   let (f,first) <-holding [ov] (getMethod ov (S "extend") pl)
   callWith p9 f first (backTo p9 (starEach [.BinOp (.List [e1] p4) .Mult e2 p8] (vEnv L))) []):=by rfl)
  (he:starEach [.BinOp (.List [e1] p4) .Mult e2 p8] (vEnv L)=[(false,eval (.BinOp (.List [e1] p4) .Mult e2 p8) (vEnv L))]:=by rfl) (he2:starEach [e1] (vEnv L)=(false,eval e1 (vEnv L)) :: starEach [] (vEnv L):=by rfl) :
  EV (model PW W0) A E B (vEnv L) (.Call (.Attribute o (S "extend") p2) [.BinOp (.List [e1] p4) .Mult e2 p8] [] p9) m hp Q:=by
 refine Zm1 (g1 _ ⟨aA,_,rfl,hx,hL,Zab (Zag (Za4 (Zab (g2 _ (Zae ⟨sz rfl,λc hc hcL=>?_⟩)) he2))) he⟩) hc he;refine g3 _ _ ?_;refine Zrl (Hp.ss ..) hcL (by (exact F01 0x67004870480 0x11 rfl h0)) (by lia) (by simp) λd hd hdL=>?_;rw[Zqq];have na:aA≠c:=Hp.ne_of hx hc;have nd:aA≠d:=Hp.ne_of (Hp.snt na hx) hd;refine Zae ⟨xs.map .int,d,(List.replicate (size + 1).toNat item).map .int,rfl,Hp.snt nd (Hp.snt na hx),Hp.ss ..,hdL,by simp;lia,?_⟩;refine hK _ ?_ λz o hz e=>?_
 .rw [Hp.ss,List.map_append]
 .have nc:z≠c:=Hp.ne_of e hc;exact Hp.snt hz (Hp.snt (Hp.ne_of (Hp.snt nc e) hd) (Hp.snt nc e))
theorem Zr0 {x way:Int}{as bs:List Int}{i:Nat} (G:Gnd (KW W0) B) (hh:A.handled=none) (hi:i < 61) (hA:hp aA=some (.list (as.map .int))) (hB:hp bA=some (.list (bs.map .int))) (aL:aA≠L) (bL:bA≠L) (ab:aA≠bA) (ka:Blk i as) (kb:Blk i bs)
  (g1:m (S "x")=some (.int x)) (g2:m (S "way")=some (.int way)) (g3:m (S "first")=some (.ref aA)) (g4:m (S "second")=some (.ref bA))
  (hK:∀ m' hp' as' bs',Blk (i + 1) as'->Blk (i + 1) bs'->hp' aA=some (.list (as'.map .int))->hp' bA=some (.list (bs'.map .int))->(∀ z o,z≠aA->z≠bA->hp z=some o->hp' z=some o)->(∀ y,y ∉ ["rest", "kind", "size", "item"]->m' (S y)=m (S y))->KK .next m' hp') :
  EXs (model PW W0) A E B (vEnv L) (kids (vS 5)) m hp KK:=by
 change EXs _ _ _ _ _ [vB 0,vB 1,vB 2,vB 3,vB 4] _ _ _;have la:=ka.len;have lb:=kb.len;refine Zac (Zbj (Zau (Zax G (Zgr W0) Zfe (by decide) (λ_=>Zb2) ⟨rfl,Zab (Zaa g1 (Zab (Zal (Zae (Zho (by decide) (pyl3 _) ?_)))))⟩)));refine Zbh hh rfl rfl rfl (Zak (Zai (Zak (Zai (Zas ?_)))));refine Zac (Zbj (Zau (Zax G (Zgr W0) Zfe (by decide) (λ_=>Zb2) ⟨rfl,Zab (Zaa (v:=.int (x.fdiv 3)) (by rfl) (Zab (Zal (Zae (Zho (by decide) (pyl8 _) ?_)))))⟩)));refine Zbh hh rfl rfl rfl (Zak (Zai (Zak (Zai (Zas ?_)))));generalize hm1:upd (upd (upd (upd m _ _) _ _) _ _) _ _=m1;have s1:m1 (S "rest")=some (.int ((x.fdiv 3).fdiv 8)):=by subst hm1;(rfl)
 have s2:m1 (S "kind")=some (.int (x.fmod 3)):=by subst hm1;(rfl)
 have s3:m1 (S "size")=some (.int ((x.fdiv 3).fmod 8)):=by subst hm1;(rfl)
 have s4:m1 (S "way")=some (.int way):=by subst hm1;(assumption)
 have s5:m1 (S "first")=some (.ref aA):=by subst hm1;(assumption)
 have s6:m1 (S "second")=some (.ref bA):=by subst hm1;(assumption)
 have s7:∀ y,y ∉ ["rest", "kind", "size", "item"]->m1 (S y)=m (S y):=λy hy=>by subst hm1;exact updO hy (updO hy (updO hy (updO hy rfl)))
 clear hm1;have z0 : 0<=(x.fdiv 3).fmod 8:=Int.fmod_nonneg_of_pos _ (by decide);have z7:(x.fdiv 3).fmod 8<=7:=by have:=Int.fmod_lt_of_pos (x.fdiv 3) (show (0:Int) < 8 by decide);(exact F01 0x747884770 0x11 rfl this)
 generalize (x.fdiv 3).fmod 8=size at *;have rest_:∀ item:Int,EXs (model PW W0) A E B (vEnv L) [vB 3,vB 4] (upd m1 (S "item") (.int item)) hp KK:=λitem=>by
  have t1:(upd m1 (S "item") (.int item)) (S "item")=some (.int item):=by rfl
  have t2:(upd m1 (S "item") (.int item)) (S "kind")=some (.int (x.fmod 3)):=by assumption
  have t3:(upd m1 (S "item") (.int item)) (S "size")=some (.int size):=by assumption
  have t4:(upd m1 (S "item") (.int item)) (S "first")=some (.ref aA):=by assumption
  have t5:(upd m1 (S "item") (.int item)) (S "second")=some (.ref bA):=by assumption
  have t6:∀ y,y ∉ ["rest", "kind", "size", "item"]->(upd m1 (S "item") (.int item)) (S y)=m (S y):=λy hy=>updO hy (s7 y hy);generalize upd m1 (S "item") (.int item)=m2 at *;have hc:(size + 1).toNat<=8:=by (exact F01 0x8475747806703a 0x10011110 rfl z7)
  have second:∀ (as':List Int) (hp1:Hp),Blk (i + 1) as'->hp1 aA=some (.list (as'.map .int))->hp1 bA=some (.list (bs.map .int))->(∀ z o,z≠aA->hp z=some o->hp1 z=some o)->EXs (model PW W0) A E B (vEnv L) [vB 4] m2 hp1 KK:=λas' hp1 q1 q2 q3 q4=>by
   refine Zac (Za5 (Zad (Zaa t2 (Zal (Zrk (Zaj ?_))))));by_cases hk:x.fmod 3=1
   .refine Zbl (show (x.fmod 3 != 1)=false from by rw[hk];rfl) (Zaf (Zaf ?_));exact hK _ _ as' bs q1 kb.more q2 q3 (λz o z1 _ e=>q4 z o z1 e) t6
   .refine Zbq (show (x.fmod 3 != 1)=true from by simp[hk]) ?_;refine Zac (Za0 (Zr1 q3 bL (by lia) z0 z7 (λ_ h=>Zaa t5 h) (λ_ h=>Zaa t1 h) (λ_ _ h=>Zag (Zaa t3 (Zal (Zav h)))) λhp2 r1 r2=>⟨by nofun,by nofun,by nofun,Zaf (Zaf ?_)⟩));exact hK _ _ as' _ q1 (kb.snoc item hc) (r2 _ _ ab q2) r1 (λz o z1 z2 e=>r2 z o z2 (q4 z o z1 e)) t6
  refine Zac (Za5 (Zad (Zaa t2 (Zal (Zrk (Zaj ?_))))));by_cases hk:x.fmod 3=2
  .refine Zbl (show (x.fmod 3 != 2)=false from by rw[hk];rfl) (Zaf ?_);exact second as hp ka.more hA hB λz o _ e=>e
  .refine Zbq (show (x.fmod 3 != 2)=true from by simp[hk]) ?_;refine Zac (Za0 (Zr1 hA aL (by lia) z0 z7 (λ_ h=>Zaa t4 h) (λ_ h=>Zaa t1 h) (λ_ _ h=>Zag (Zaa t3 (Zal (Zav h)))) λhp2 r1 r2=>⟨by nofun,by nofun,by nofun,Zaf ?_⟩));exact second _ hp2 (ka.snoc item hc) r1 (r2 _ _ ab.symm hB) r2
 refine Zac (Zan (Zeq (Zad (Zag (Zaa s4 (Zal (Zfj (by decide) (Zal (Zf7 (Zaj ?_))))))))));have w0 : 0<=way.fmod 4:=Int.fmod_nonneg_of_pos _ (by decide);by_cases hw : 0 < way.fmod 4
 .refine Zbr hw ?_;refine Zag (Zaa s1 (Zag (Zag (Zaa s4 (Zal (Zfj (by decide) (Zal (Zav (Zfj (by (exact F01 0x424709270480 0x11 rfl w0)) ?_)))))))));exact rest_ _
 .refine Zbs hw ?_;exact Zaa s1 (rest_ _)
end
theorem Zdg {α β:Type} (f : α->β) (xs:List α) (lo hi:Option Int):pick (xs.map f) lo hi=(pick xs lo hi).map f:=by unfold pick;(rw[List.length_map,←List.map_drop];exact List.map_take.symm)
theorem Zei {α:Type} (xs:List α) (lo hi:Option Int):(pick xs lo hi).length<=xs.length:=by unfold pick;rw[List.length_take,List.length_drop];lia
theorem Zkx {α:Type} (xs:List α) (hi:Option Int):(pick xs (some 2) hi).length<=xs.length - min xs.length 2:=by
 unfold pick;rw[List.length_take,List.length_drop];have:(some (2:Int)).elim 0 (clipAt xs.length)=min xs.length 2:=by show clipAt xs.length 2=_;unfold clipAt;simp;lia
 rw[this];lia
section
variable {A:Around}{E:ET}{B:Shared}{m:Loc}{hp:Hp}{L:Addr}{KK:QX}
structure Rdy (hp:Hp) (L nA:Addr) (nums:List Int) (cut way:Int) (aj:Bool) (m:Loc):Prop where
 n:hp nA=some (.list (nums.map .int))
 nL:nA≠L
 len:nums.length<=61
 g1:m (S "numbers")=some (.ref nA)
 g2:m (S "cut")=some (.int cut)
 g3:m (S "way")=some (.int way)
 g4:m (S "popular")=some (.bool aj)
theorem Zsx {l:Addr}{ns:List Int} (G:Gnd (KW W0) B) (hh:A.handled=none) (hlen:ns.length<=63) (hl:Lst B hp L l (ns.map .int)) (g0:m (S "script")=some (.ref l))
  (hK:∀ m' hp' cut way,Hp.Le hp hp'->m' (S "cut")=some (.int cut)->m' (S "way")=some (.int way)->m' (S "script")=some (.ref l)->KK .next m' hp'):EX (model PW W0) A E B (vEnv L) (vS 0) m hp KK:=by
 refine Zbj (Zm3 (Zag (Zaa g0 (Za4 (Zab (Zal (Zab (Zal (Zae ⟨sz rfl,λf hf hfL=>?_⟩)))))))));have l1:Hp.Le hp (hp.set f (.list [.int 0,.int 0])):=(Hp.Le.refl _).set hf _;refine Zmt (hl.le l1) (.own (Hp.ss ..) hfL) (by rw[List.length_map];simp;(exact Nat.le_trans ‹_› (by decide))) λc hc hcL=>?_;have l2:=l1.set (l1.none hc) (.list (ns.map .int ++ [.int 0,.int 0]));refine Zal ⟨c,_,none,some 2,rfl,.own (Hp.ss ..) hcL,by rw[List.length_append,List.length_map];exact sz' (by simp;(exact Nat.le_trans ‹_› (by decide))),rfl,rfl,λd hd hdL=>?_⟩;have l3:=l2.set (l2.none hd) (.list (pick (ns.map AV.int ++ [.int 0,.int 0]) none (some 2)));have e:∃ a b:Int,pick (ns.map AV.int ++ [.int 0,.int 0]) none (some 2)=[.int a,.int b]:=by
  have h2:ns.map AV.int ++ [.int 0,.int 0]=(ns ++ [0,0]).map .int:=by rw[List.map_append];rfl
  rw[h2,Zdg]
  match ns with
  | []=>exact ⟨0,0,rfl⟩
  | [x]=>exact ⟨x,0,rfl⟩
  | x :: y :: r=>
   refine ⟨x,y,?_⟩;unfold pick;have:clipAt ((x :: y :: r) ++ [0,0]).length 2=2:=by unfold clipAt;simp;lia
   show List.map AV.int (List.take (clipAt ((x :: y :: r) ++ [0,0]).length 2 - 0) (List.drop 0 ((x :: y :: r) ++ [0,0])))=_;refine this▸?_;rfl
 obtain ⟨a,b,e⟩:=e;rw[e]at l3 ⊢;refine Zki hh rfl rfl rfl (.own (Hp.ss ..) hdL) (Zak (Zai (Zak (Zai (Zas ?_)))));exact hK _ _ a b l3 (by rfl) (by rfl) (by assumption)
theorem Zsw {l:Addr}{ns:List Int} (G:Gnd (KW W0) B) (hlen:ns.length<=63) (hl:Lst B hp L l (ns.map .int)) (g0:m (S "script")=some (.ref l))
  (hK:∀ nA hp' (nums:List Int),hp nA=none->hp' nA=some (.list (nums.map .int))->nA≠L->nums.length<=61->Hp.Le hp hp'->KK .next (upd m (S "numbers") (.ref nA)) hp'):EX (model PW W0) A E B (vEnv L) (vS 1) m hp KK:=by
 have hml:(ns.map AV.int).length<=63:=by rw[List.length_map];exact hlen
 refine Zan (Zeq (Zad (Zau (Zax G (Zct W0) Zb9 (by decide) (λ_=>Zb2) ⟨rfl,Zab (Zaa g0 (Zae (Zec hl (sz' (by (exact Nat.le_trans ‹_› (by decide)))) ?_)))⟩))));refine Zal (Zf7 (Zaj ?_));rw[List.length_map];by_cases h3 : 3 < ns.length
 .refine Zbq (show decide ((3:Int) < (ns.length:Int))=true from by simp;(exact Int.ofNat_lt.mpr ‹_›)) ?_;refine Zep (Zaa g0 (Zal (Zal ⟨l,ns.map .int,some 2,some 63,rfl,hl,sz' (by (exact Nat.le_trans ‹_› (by decide))),rfl,rfl,λc hc hcL=>?_⟩)));rw[Zdg];refine hK c _ (pick ns (some 2) (some 63)) hc (Hp.ss ..) hcL ?_ ((Hp.Le.refl _).set hc _);have:=Zkx ns (some 63);lia
 .refine Zbl (show decide ((3:Int) < (ns.length:Int))=false from by simp;(exact F10 0x34738734420 0x11 rfl h3)) ?_;refine Zag (Za4 (Zab (Zal (Zab (Zal (Zab (Zal (Zab (Zal (Zae ⟨sz rfl,λf hf hfL=>?_⟩))))))))));have l1:Hp.Le hp (hp.set f (.list [.int 27,.int 49,.int 0,.int 6])):=(Hp.Le.refl _).set hf _;refine Zep (Zaa g0 (Zal ⟨l,ns.map .int,some 2,none,rfl,hl.le l1,sz' (by (exact Nat.le_trans ‹_› (by decide))),rfl,rfl,λc hc hcL=>?_⟩));have nf:f≠c:=Hp.ne_of (Hp.ss ..) hc;rw[Zdg];refine Zmt (.own (Hp.snt nf (Hp.ss ..)) hfL) (.own (Hp.ss ..) hcL) ?_ λd hd hdL=>?_
  .have:=Zei ns (some 2) none;simp;lia
  .have l2:=l1.set (l1.none hc) (.list ((pick ns (some 2) none).map .int));rw[show [AV.int 27,.int 49,.int 0,.int 6] ++ (pick ns (some 2) none).map .int=([27,49,0,6] ++ pick ns (some 2) none).map .int from by rw[List.map_append];rfl];refine hK d _ _ (l2.none hd) (Hp.ss ..) hdL ?_ (l2.set (l2.none hd) _);have:=Zei ns (some 2) none;simp;(exact F20 0x395857850734420 0x111 rfl h3 this)
theorem Zsv {nA:Addr}{nums:List Int}{cut:Int} (G:Gnd (KW W0) B) (hn:hp nA=some (.list (nums.map .int))) (hnL:nA≠L) (hlen:nums.length<=61) (g1:m (S "numbers")=some (.ref nA)) (g2:m (S "cut")=some (.int cut))
  (hK:∀ c,KK .next (upd m (S "cut") (.int c)) hp):EX (model PW W0) A E B (vEnv L) (vS 2) m hp KK:=by
 have ln:∀ {Q:QV},Q (.int (nums.length:Nat)) hp->CL (model PW W0) A E B (vEnv L) (.builtin "len") m [.ref nA] hp Q:=λ{Q} h=>Zec (.own hn hnL) (by rw[List.length_map];exact sz' (by (exact Nat.le_trans ‹_› (by decide)))) (by rw[List.length_map];exact h);refine Zan (Zag (Zag (Zaa g2 (Zag (Zag (Zau (Zax G (Zct W0) Zb9 (by decide) (λ_=>Zb2) ⟨rfl,Zab (Zaa g1 (Zae (ln ?_)))⟩)))))));refine Zal (Zav (Zal (Zcp (by decide) (by decide) (Zav ?_))));refine Zag (Zau (Zax G (Zct W0) Zb9 (by decide) (λ_=>Zb2) ⟨rfl,Zab (Zaa g1 (Zae (ln ?_)))⟩));exact Zal (Zav (Zfj (by (exact F10 0x4673092 0x1 rfl)) (hK _)))
theorem Zsu {way:Int} (g3:m (S "way")=some (.int way)) (hK:∀ aj,KK .next (upd m (S "popular") (.bool aj)) hp):EX (model PW W0) A E B (vEnv L) (vS 3) m hp KK:=by refine Zan (Zii (Zag (Zag (Zaa g3 (Zal (Zcp (by decide) (by decide) (Zal (Zfj (by decide) (Zal (Zd2 ?_))))))))));exact hK _
end
section
variable {A:Around}{E:ET}{B:Shared}{m:Loc}{hp:Hp}{L:Addr}{KK:QX}
structure FS (hp:Hp) (L aA bA:Addr) (k:Nat) (as bs:List Int):Prop where
 a:hp aA=some (.list (as.map .int))
 b:hp bA=some (.list (bs.map .int))
 ka:Blk k as
 kb:Blk k bs
theorem Zss {nA aA bA:Addr}{nums:List Int}{cut way:Int}{aj:Bool} (G:Gnd (KW W0) B) (hh:A.handled=none) (R:Rdy hp L nA nums cut way aj m) (F:FS hp L aA bA 0 [] []) (aL:aA≠L) (bL:bA≠L) (ab:aA≠bA) (na:nA≠aA) (nb:nA≠bA)
  (g5:m (S "first")=some (.ref aA)) (g6:m (S "second")=some (.ref bA))
  (hK:∀ m' hp' as bs,Rdy hp' L nA nums cut way aj m'->FS hp' L aA bA 61 as bs->m' (S "first")=some (.ref aA)->m' (S "second")=some (.ref bA)->KK .next m' hp'):EX (model PW W0) A (λ_ _=>False) B (vEnv L) (vS 5) m hp KK:=by
 refine Zd3 hh (Zep (Zaa R.g1 (Zaa R.g2 ⟨nA,nums.map .int,none,some cut,rfl,.own R.n R.nL,by rw[List.length_map];exact sz' (by have:=R.len;(exact Nat.le_trans ‹_› (by decide))),rfl,rfl,λc hc hcL=>?_⟩)));rw[Zdg];have hpl:=Zei nums none (some cut);have hnl:=R.len;generalize pick nums none (some cut)=ps at hpl ⊢;have nc:nA≠c:=Hp.ne_of R.n hc;have ac:aA≠c:=Hp.ne_of F.a hc;have bc:bA≠c:=Hp.ne_of F.b hc;refine ⟨c,_,rfl,.own (Hp.ss ..) hcL,λit hit hitL=>?_⟩;have ic:it≠c:=λe=>by rw[e,Hp.ss]at hit;cases hit
 have hit0:hp it=none:=Hp.snr ic hit;have ni:nA≠it:=Hp.ne_of R.n hit0;have ai:aA≠it:=Hp.ne_of F.a hit0;have bi:bA≠it:=Hp.ne_of F.b hit0;let Iq:Nat->Loc->Hp->Prop:=λi m₂ hp₂=>Rdy hp₂ L nA nums cut way aj m₂/\(∃ as bs,FS hp₂ L aA bA i as bs)/\m₂ (S "first")=some (.ref aA)/\m₂ (S "second")=some (.ref bA)/\hp₂ c=some (.list (ps.map .int));have mv:∀ {m₂:Loc} {hp₂:Hp}{i:Nat} (hpX:Hp),Iq i m₂ hp₂->(∀ z,z≠it->hpX z=hp₂ z)->Iq i m₂ hpX:=λ{m₂ hp₂ i} hpX x e=>by obtain ⟨r,⟨as,bs,f⟩,x3,x4,x5⟩:=x;exact ⟨{ r with n:=by rw[e _ ni];exact r.n },⟨as,bs,by rw[e _ ai];exact f.a,by rw[e _ bi];exact f.b,f.ka,f.kb⟩,x3,x4,by rw[e _ (Ne.symm ic)];exact x5⟩
 refine ⟨Iq,λob=>?_,λi m₂ hp₂ ob x=>mv _ x λz hz=>Hp.sn _ _ hz,λi m₂ hp₂ x=>.own x.2.2.2.2 hcL,λi xv m₂ hp₂ ob hx x hob=>?_,λm₂ hp₂ x=>?_⟩
 .refine mv (hp₂:=hp.set c (.list (ps.map .int))) _ ⟨{ R with n:=Hp.snt nc R.n },⟨[],[],Hp.snt ac F.a,Hp.snt bc F.b,F.ka,F.kb⟩,g5,g6,Hp.ss ..⟩ λz hz=>Hp.sn _ _ hz
 .refine hide λ_ Z=>?_;obtain ⟨r,⟨as,bs,f⟩,x3,x4,x5⟩:=x;rw[List.getElem?_map]at hx;obtain ⟨v,hv,rfl⟩:=Option.map_eq_some_iff.mp hx;apply Z;clear Z;have hi:i < ps.length:=(List.getElem?_eq_some_iff.mp hv).1;refine Zai ?_;refine Zcb λKT hT=>?_;refine Zr0 G hh (by (exact F30 0x3d594894078503d5750 0x1111 rfl hnl hpl hi)) f.a f.b aL bL ab f.ka f.kb (by rfl) (by have:=r.g3;(assumption)) (by assumption) (by assumption) λm' hp' as' bs' q1 q2 q3 q4 q5 q6=>hT _ _ _ ?_;have keep:∀ y,y ∉ ["rest", "kind", "size", "item"]->y ≠ "x" -> m' (S y)=m₂ (S y):=λy h1 h2=>by (rw[q6 y h1,ug];exact (if_neg h2))
  refine ⟨⟨⟨q5 _ _ na nb r.n,r.nL,r.len,by rw[keep _ (by decide) (by decide)];exact r.g1,by rw[keep _ (by decide) (by decide)];exact r.g2,by rw[keep _ (by decide) (by decide)];exact r.g3,by rw[keep _ (by decide) (by decide)];exact r.g4⟩,⟨as',bs',q3,q4,q1,q2⟩,by rw[keep _ (by decide) (by decide)];exact x3,by rw[keep _ (by decide) (by decide)];exact x4,q5 _ _ (Ne.symm ac) (Ne.symm bc) x5⟩,q5 _ _ (Ne.symm ai) (Ne.symm bi) hob⟩
 .refine hide λ_ Z=>?_;rw[List.length_map]at x;obtain ⟨r,⟨as,bs,f⟩,x3,x4,x5⟩:=mv (hp₂.del it) x λz hz=>Hp.del_ne _ hz;apply Z;clear Z;have up:∀ {as:List Int} (j k:Nat),j<=k->Blk j as->Blk k as:=λj k h b=>by refine ae b λM h1 h2 h3=>?_;exact ⟨M,by (exact Nat.le_trans ‹_› ‹_›),h2,h3⟩
  exact hK _ _ as bs r ⟨f.a,f.b,up _ _ (by (exact Nat.le_trans ‹_› ‹_›)) f.ka,up _ _ (by (exact Nat.le_trans ‹_› ‹_›)) f.kb⟩ x3 x4
end
section
variable {K:Frag}
theorem Zdr {e:Expr} {pos}{Q:QX} (h:EV (model PW W0) A E B env e m hp λ_ hp'=>Q .next m hp') (hi:interactive env=false:=by rfl)
  (hs:swapsWith e none pos.line env=pure false:=by rfl):EX (model PW W0) A E B env (.Expr e pos) m hp Q:=λs r=>
 wpAny_Expr_any (h.use r λu s₁ v hp₁ r₁ le₁ hu q=>mkX (af:=.next) r₁ le₁ rfl q) hi hs
end
noncomputable def mB (i:Nat):Stmt:=(kids (vS 9)).getD i (.Pass default)
noncomputable def m0B (i:Nat):Stmt:=(kids (mB 2)).getD i (.Pass default)
theorem Zg1 (a b:Int):imin a b=imin b a:=by unfold imin;split <;> split <;> (first | exact F02 0x87978708770 0x11011 rfl ‹_› ‹_› | exact F01 0x779 0x11 rfl | exact F02 0x7897872087720 0x101110 rfl ‹_› ‹_›)
theorem Zll (k:Int) (l:List Op):(Zbf k l).length=l.length:=by
 by_cases h:l=[]
 .subst h;unfold Zbf;rw[if_pos rfl]
 .rw [(Zdi h).2];unfold Za3;rw[lastTrim_len,headTrim_len,if_neg h]
structure LS (hz hp:Hp) (L aA bA x dx:Addr) (as bs:List Int) (aj:Bool) (least whole:Int) (cd:Option (Addr × List Op)):Prop where
 a:hp aA=some (.list (as.map .int))
 b:hp bA=some (.list (bs.map .int))
 aL:aA≠L
 bL:bA≠L
 ab:aA≠bA
 ka:Blk 61 as
 kb:Blk 61 bs
 M:MK hp L x dx aA bA bs aj cd
 cr:∀ r l,cd=some (r,l)->r≠aA/\r≠bA/\hz r=none
 z:Hp.Le hz hp
 zd:hz dx=none
 zL:hz L=none
 eq:opsC cd (codesF as bs aj)=Zbf least (codesF as bs aj)
 l0 : 0<=least
 wa:(as.length:Int)<=whole
 wb:(bs.length:Int)<=whole
structure LN (m:Loc) (aA bA x:Addr) (aj:Bool) (least whole:Int):Prop where
 f:m (S "first")=some (.ref aA)
 s:m (S "second")=some (.ref bA)
 l:m (S "least")=some (.int least)
 w:m (S "whole")=some (.int whole)
 mt:m (S "matcher")=some (.ref x)
 p:m (S "popular")=some (.bool aj)
structure NW (hp:Hp) (L dx y dy aA bA:Addr) (bs:List Int) (aj:Bool) (hqa:Hp) (cd:Option (Addr × List Op)):Prop where
 M:MT hqa L y dy (.ref aA) (.ref bA) bs aj .none .none
 le:Hp.Le hqa hp
 nL:hqa L=none
 nd:hqa dx=none
 nr:∀ r l,cd=some (r,l)->hqa r=none
section
variable {A:Around}{E:ET}{B:Shared}{m:Loc}{hp:Hp}{L:Addr}{KK:QX}
theorem pops {sA:Addr}{ys:List Addr}{gs:List (List Op)} (G:Gnd (KW W0) B) (hh:A.handled=none) (hs:hp sA=some (.list (ys.map .ref))) (hsL:sA≠L) (ls:Ls hp ys gs) (hy:∀ y ∈ ys,y≠L/\y≠sA) (nd:ys.Nodup) (ne:∀ g ∈ gs,g≠[]) (hg:∀ g ∈ gs,g.length<=1000) (g1:m (S "told")=some (.ref sA))
  (hK:∀ m' hp',(∀ y,y ≠ "group" -> m' (S y)=m (S y))->(∀ z o,z ∉ ys->hp z=some o->hp' z=some o)->KK .next m' hp'):EX (model PW W0) A (λ_ _=>False) B (vEnv L) (m0B 3) m hp KK:=by
 refine Zd3 hh (Zaa g1 ⟨sA,ys.map .ref,rfl,.own hs hsL,λit hit hitL=>?_⟩);have hiy:∀ y ∈ ys,y≠it:=λy hm=>by obtain ⟨g,e⟩:=ls.mem hm;exact Hp.ne_of e hit
 have his:sA≠it:=Hp.ne_of hs hit;let Iq:Nat->Loc->Hp->Prop:=λi m₂ hp₂=>(∀ y,y ≠ "group" -> m₂ (S y)=m (S y))/\(∀ z o,z ∉ ys->hp z=some o->hp₂ z=some o)/\∀ (j:Nat) (y:Addr) (g:List Op),i<=j->ys[j]?=some y->gs[j]?=some g->hp₂ y=some (.list (g.map oAV));have sy:sA ∉ ys:=λh=>(hy sA h).2 rfl;refine ⟨Iq,λob=>⟨λ_ _=>rfl,λz o _ e=>Hp.snt (Hp.ne_of e hit) e,λj y g _ e1 e2=>Hp.snt (hiy y (List.mem_of_getElem? e1)) (ls.2 j y g e1 e2)⟩,λi m₂ hp₂ ob x=>⟨x.1,λz o hz e=>Hp.snt (Hp.ne_of e hit) (x.2.1 z o hz e),λj y g hj e1 e2=>Hp.snt (hiy y (List.mem_of_getElem? e1)) (x.2.2 j y g hj e1 e2)⟩,λi m₂ hp₂ x=>.own (x.2.1 _ _ sy hs) hsL,λi v m₂ hp₂ ob hv x hob=>?_,λm₂ hp₂ x=>?_⟩
 .rw [List.getElem?_map]at hv;obtain ⟨y,hyi,rfl⟩:=Option.map_eq_some_iff.mp hv;have hil:i < gs.length:=by refine ls.1▸?_;exact (List.getElem?_eq_some_iff.mp hyi).1
  have hgi:gs[i]?=some gs[i]:=List.getElem?_eq_getElem hil;have hm:=List.mem_of_getElem? hyi;have hyv:=x.2.2 i y _ (Nat.le_refl _) hyi hgi;have hgm:gs[i] ∈ gs:=List.getElem_mem hil;generalize gs[i]=g at hyv hgm hgi;obtain ⟨g',p,rfl⟩:∃ g' p,g=g' ++ [p]:=by
   rcases List.eq_nil_or_concat g with e | ⟨g',p,e⟩
   .exact absurd e (ne g hgm)
   .exact ⟨g',p,by exact (e.trans (List.concat_eq_append))⟩
  have hlen:=hg _ hgm;rw[List.length_append]at hlen;rw[List.map_append]at hyv;refine Zai (Zac (Zdr (Zqd (Zaa (v:=.ref y) (by rfl) ⟨y,g'.map oAV,oAV p,rfl,hyv,(hy y hm).1,by rw[List.length_map];have:=sizeLine_eq;simp at hlen;(exact Nat.lt_of_le_of_lt ‹_› (by decide)),Zaf ⟨⟨λn hn=>?_,λz o hz e=>Hp.snt (λe'=>hz (e' ▸ hm)) (x.2.1 z o hz e),λj z gV hj e1 e2=>?_⟩,Hp.snt (Ne.symm (hiy y hm)) hob⟩⟩))))
  .show upd m₂ (S "group") (.ref y) (S n)=_;rw[ug,if_neg hn];exact x.1 n hn
  .refine Hp.snt (λe=>?_) (x.2.2 j z gV (by (exact Nat.le_of_lt ‹_›)) e1 e2);subst e;have h1:=List.getElem?_eq_some_iff.mp e1;have h2:=List.getElem?_eq_some_iff.mp hyi;have:=(List.getElem_inj (h₀:=h1.1) (h₁:=h2.1) nd).mp (h1.2.trans h2.2.symm)
   (exact F20 0x37860867050 0x11 rfl hj this)
 .refine hK _ _ x.1 λz o hz e=>?_;rw[Hp.del_ne _ (Hp.ne_of e hit)];exact x.2.1 z o hz e
end
section
variable {A:Around}{E:ET}{B:Shared}{m:Loc}{hz hp:Hp}{L aA bA x dx y dy:Addr}{as bs:List Int}{aj:Bool}{least whole n:Int}{cd:Option (Addr × List Op)}{KK:QX}
theorem LS.grp {hq hp2:Hp}{ops:List Op}{sA r:Addr}{ys:List Addr} (U:LS hz hp L aA bA x dx as bs aj least whole cd) (O:GrpOut hp hp2 hq L x dx aA bA bs aj cd ops n sA ys r):∀ z o,hp z=some o->z≠dx->(∀ r' l,cd=some (r',l)->z≠r')->z≠L->hp2 z=some o/\z≠r/\z ∉ ys:=λz o e z1 z2 z3=>
 ⟨O.keep z o z1 z2 z3 e,O.rr z o e z1 z2 z3,λhm=>by rw[O.y0 z hm z1]at e;cases e⟩
theorem br0 {hq hqa:Hp}{mb op:AV} (G:Gnd (KW W0) B) (hh:A.handled=none) (hu:A.units + 90 < cLine) (hroom:A.depth + 40 < recursionLimit) (U:LS hz hp L aA bA x dx as bs aj least whole cd) (le:Hp.Le hq hp) (MM:MT hq L x dx (.ref aA) (.ref bA) bs aj mb op) (kc:KC hp hq L cd mb op) (hdy:hq dy=none) (hdz:hz dy=none)
  (W:NW hp L dx y dy aA bA bs aj hqa cd) (N:LN m aA bA x aj least whole) (gn:m (S "n")=some (.int n)) (ga:m (S "anew")=some (.ref y)) (hn : 0<=n)
  (hK:∀ m' hp' cd',LS hz hp' L aA bA x dx as bs aj (imin least n) whole cd'->LN m' aA bA x aj (imin least n) whole->(∀ y,y ∉ ["least", "told", "group"]->m' (Mine.S y)=m (Mine.S y))->KK .next m' hp') :
  EXs (model PW W0) A (λ_ _=>False) B (vEnv L) (kids (mB 2)) m hp KK:=by
 change EXs _ _ _ _ _ [m0B 0,m0B 1,m0B 2,m0B 3] _ _ _;refine hide λ_ Z=>?_;have T:=Zev U.ka U.kb aj;have hla:=T.la;have hlb:=T.lb;have hlen:=T.len;have hops:(opsC cd (codesF as bs aj)).length<=150:=by rw[U.eq,Zll];exact T.len
 have gk:=Zdk (n:=n) T.even
 have gk2:=Zdk (n:=n) (l:=opsC cd (codesF as bs aj)) (by
  rw[U.eq];by_cases hz:codesF as bs aj=[]
  .rw [hz];unfold Zbf;rw[if_pos rfl];intro o ho;cases ho
  .rw [(Zdi hz).2];exact Zea T.even)
 obtain ⟨may,Iy,_⟩:=W.M.keep;have hdy1:=Iy.at_;have hdy2:=W.le _ _ hdy1;obtain ⟨max,Ix,_⟩:=MM.keep;apply Z;clear Z;have hdx2:=le _ _ Ix.at_;have dxy:dx≠dy:=λe=>by rw[<-e,W.nd]at hdy1;cases hdy1
 have dyL:dy≠L:=Iy.dL;have dyr:∀ r l,cd=some (r,l)->dy≠r:=λr l e h=>by rw[h,W.nr r l e]at hdy1;cases hdy1
 refine Zac (Zan (Zau (Zax G (Zgq W0) Ze1 (by decide) (λ_=>Zb2) ⟨rfl,Zab (Zaa N.l (Zab (Zaa gn (Zae (Zhn hh ?_)))))⟩)));have n1:(upd m (S "least") (.int (imin least n))) (S "matcher")=some (.ref x):=by have:=N.mt;(assumption)
 have n2:(upd m (S "least") (.int (imin least n))) (S "n")=some (.int n):=by assumption
 refine Zac (Zan (Ztt (as:=as) (bs:=bs) (aj:=aj) (cd:=cd) (ops:=opsC cd (codesF as bs aj)) (n:=n) G hh (by (exact ul ‹_› (by decide))) (by (exact ul ‹_› (by decide))) le MM kc (.own U.a U.aL) (.own U.b U.bL) (by (exact Nat.le_trans ‹_› (by decide))) (by (exact Nat.le_trans ‹_› (by decide))) T.raw T.res rfl hops
  (Zax G (Zfr W0) Zeo (by decide) (λ_=>Zeg) ⟨rfl,Zaa n1 ⟨rfl,rfl,Zaa n2 ⟨rfl,rfl⟩⟩⟩) λhp2 sA ys r O=>?_))
 refine hide λ_ Z=>?_;have K:=U.grp O;have ax:aA≠dx:=λe=>by have:=U.a;rw[e,hdx2]at this;cases this
 have bx:bA≠dx:=λe=>by have:=U.b;rw[e,hdx2]at this;cases this
 have ka:=K aA _ U.a ax (λr' l e=>((U.cr r' l e).1).symm) U.aL;have kb:=K bA _ U.b bx (λr' l e=>((U.cr r' l e).2.1).symm) U.bL;have kd:=K dy _ hdy2 (Ne.symm dxy) dyr dyL;have sdy:sA≠dy:=λe=>by have:=O.s0;rw[e,hdy2]at this;cases this
 refine aN O.hq λhq' mb' e1 e2 e3 e4 e5 e6=>?_;refine aH O.M.ex λhqm mbm opm f1 f2 V=>?_;refine ak V λf3 f4 f5 f6=>?_;clear V;apply Z;clear Z;have rdy:r≠dy:=Ne.symm kd.2.1;have q1:(upd (upd m (S "least") (.int (imin least n))) (S "told") (.ref sA)) (S "told")=some (.ref sA):=by rfl
 have q2:(upd (upd m (S "least") (.int (imin least n))) (S "told") (.ref sA)) (S "anew")=some (.ref y):=by assumption
 have q3:(upd (upd m (S "least") (.int (imin least n))) (S "told") (.ref sA)) (S "n")=some (.int n):=by assumption
 have q4:(upd (upd m (S "least") (.int (imin least n))) (S "told") (.ref sA)) (S "least")=some (.int (imin least n)):=by rfl
 have q5:LN (upd (upd m (S "least") (.int (imin least n))) (S "told") (.ref sA)) aA bA x aj (imin least n) whole:=by have a1:=N.f;have a2:=N.s;have a3:=N.w;have a4:=N.mt;have a5:=N.p;exact ⟨by assumption,by assumption,by assumption,by assumption,by assumption,by assumption⟩
 have q6:∀ y,y ∉ ["least", "told", "group"]->(upd (upd m (S "least") (.int (imin least n))) (S "told") (.ref sA)) (S y)=m (S y):=λy hy=>updO hy (updO hy rfl);generalize upd (upd m (S "least") (.int (imin least n))) (S "told") (.ref sA)=m2 at q1 q2 q3 q4 q5 q6 ⊢;have lea:Hp.Le hqa hp2:=λz o e=>O.keep z o (λh=>by rw[h,W.nd]at e;cases e) (λr' l er h=>by rw[h,W.nr r' l er]at e;cases e) (λh=>by rw[show z=L from h,W.nL]at e;cases e) (W.le _ _ e)
 refine Zac (Za5 (Zad (Zaa q1 (Zpf (hqc:=hqa) (as:=as) (bs:=bs) (aj:=aj) (n:=n) (k:=imin least n) G hh (by (exact ul ‹_› (by decide))) (by (exact ul ‹_› (by decide))) lea W.M (.own ka.1 U.aL) (.own kb.1 U.bL) (by (exact Nat.le_trans ‹_› (by decide))) (by (exact Nat.le_trans ‹_› (by decide))) T.raw T.res hlen (by have:=gk.2;lia) (λg hg=>by have:=(gk.1 g hg).2.2;lia) (.inr λg hg=>(gk.1 g hg).2.1)
  (Zd4 G (Zg4 W0) (λ_=>VR_ref) ⟨rfl,Zaa q2 ⟨rfl,rfl,Zaa q3 ⟨rfl,rfl⟩⟩⟩) (λgn hp'=>Zaa q4 ⟨rfl,rfl⟩) λhp3 dA zs T3=>?_))))
 have law:=Zjl (n:=n) (k:=least) U.l0 hn T.even;rw[Zg1,<-U.eq]at law;have yL:∀ z ∈ ys,z≠L:=λz hz=>(O.y z hz).1;have ydy:∀ z ∈ ys,z≠dy:=λz hz e=>kd.2.2 (e ▸ hz);have hs3:hp3 sA=some (.list (ys.map .ref)):=T3.keep _ _ sdy O.sL O.s;have ls3:Ls hp3 ys (Zaw n (opsC cd (codesF as bs aj))):=⟨O.ls.1,λi z g hz hg=>T3.keep _ _ (ydy z (List.mem_of_getElem? hz)) (yL z (List.mem_of_getElem? hz)) (O.ls.2 i z g hz hg)⟩;refine Zfi (RD.list (.own hs3 O.sL) (Zbv ls3 yL)) (RD.list (.own T3.d T3.dL) (Zbv T3.ls T3.zL)) (Zbi _) (Zbi _) (by (exact ul ‹_› (by decide))) (Zaj ?_);refine Zbl (by rw[<-law,Zcw];rfl) (Zaf ?_);refine Zac (pops G hh hs3 O.sL ls3 (λz hz=>⟨yL z hz,(O.y z hz).2.2⟩) O.nd (λg hg=>(gk2.1 g hg).2.1) (λg hg=>by have:=(gk2.1 g hg).2.2;lia) q1 λm4 hp4 p1 p2=>Zaf (hK m4 hp4 (some (r,Zbf n (opsC cd (codesF as bs aj)))) ?_ ?_ λz hz=>?_))
 .have fin:∀ z o,hp2 z=some o->z≠dy->z≠L->z ∉ ys->hp4 z=some o:=λz o e z1 z2 z3=>p2 z o z3 (T3.keep z o z1 z2 e);have ady:aA≠dy:=λe=>by have:=U.a;rw[e,hdy2]at this;cases this
  have bdy:bA≠dy:=λe=>by have:=U.b;rw[e,hdy2]at this;cases this
  have hzr:hz r=none:=by
   cases e:hz r with
   | none=>rfl
   | some o=>
    exact absurd rfl (O.rr r o (U.z _ _ e) (λh=>by rw[h,U.zd]at e;cases e) (λr' l er h=>by rw[h,(U.cr r' l er).2.2]at e;cases e) (λh=>by rw[show r=L from h,U.zL]at e;cases e))
  refine ⟨fin _ _ ka.1 ady U.aL ka.2.2,fin _ _ kb.1 bdy U.bL kb.2.2,U.aL,U.bL,U.ab,U.ka,U.kb,⟨hq'.del L,mb',.ref r,λz o e=>?_,e2.move λz o e _ hz=>⟨(Hp.del_ne _ (show z≠L from hz)).trans e,hz⟩,rfl,(Hp.del_le _ _).none e3,f5,?_⟩,λr' l er=>?_,λz o e=>?_,U.zd,U.zL,?_,?_,U.wa,U.wb⟩
  .by_cases hzL:z=L
   .subst hzL;simp[Hp.del]at e
   .rw [Hp.del_ne _ hzL]at e;refine fin z o (e1 _ _ e) (λh=>?_) hzL λhm=>?_
    .rw [h,e6 _ hdy]at e;cases e
    .rw [e5 z hm]at e;cases e
  .exact fin _ _ f6 rdy f5 λhm=>(O.y r hm).2.1 rfl
  .cases er;exact ⟨Ne.symm ka.2.1,Ne.symm kb.2.1,hzr⟩
  .have h1:=U.z _ _ e;have zd:z≠dx:=λh=>by rw[h,U.zd]at e;cases e
   have zL:z≠L:=λh=>by rw[h,U.zL]at e;cases e
   have k:=K z o h1 zd (λr' l er h=>by rw[h,(U.cr r' l er).2.2]at e;cases e) zL;exact fin z o k.1 (λh=>by rw[h,hdz]at e;cases e) zL k.2.2
  .show Zbf n (opsC cd (codesF as bs aj))=Zbf (imin least n) (codesF as bs aj);rw[U.eq,keptC_keptC,Zg1]
  .have:=U.l0;unfold imin;split <;> omega
 .exact ⟨by rw[p1 _ (by decide)];exact q5.f,by rw[p1 _ (by decide)];exact q5.s,by rw[p1 _ (by decide)];exact q5.l,by rw[p1 _ (by decide)];exact q5.w,by rw[p1 _ (by decide)];exact q5.mt,by rw[p1 _ (by decide)];exact q5.p⟩
 .have hz':=hz;simp only[List.mem_cons,List.not_mem_nil,or_false,not_or]at hz';rw[p1 _ hz'.2.2];exact q6 z hz
end
noncomputable def e1S:Stmt:=(kidE (mB 2)).getD 0 (.Pass default)
noncomputable def m1B (i:Nat):Stmt:=(kids e1S).getD i (.Pass default)
theorem Ls.one {hp:Hp}{r:Addr}{g:List Op} (h:hp r=some (.list (g.map oAV))):Ls hp [r] [g]:=⟨rfl,λi z g' hz hg=>by
 cases i with
 | zero=>cases hz;cases hg;exact h
 | succ i=>cases hz⟩
section
variable {A:Around}{E:ET}{B:Shared}{m:Loc}{hz hp:Hp}{L aA bA x dx y dy:Addr}{as bs:List Int}{aj:Bool}{least whole n:Int}{cd:Option (Addr × List Op)}{KK:QX}
theorem br1 {hq hqa:Hp}{mb op:AV} (G:Gnd (KW W0) B) (hh:A.handled=none) (hu:A.units + 90 < cLine) (hroom:A.depth + 40 < recursionLimit) (U:LS hz hp L aA bA x dx as bs aj least whole cd) (le:Hp.Le hq hp) (MM:MT hq L x dx (.ref aA) (.ref bA) bs aj mb op) (kc:KC hp hq L cd mb op) (hdy:hq dy=none) (hdz:hz dy=none)
  (W:NW hp L dx y dy aA bA bs aj hqa cd) (N:LN m aA bA x aj least whole) (ga:m (S "anew")=some (.ref y))
  (hK:∀ hp' cd',LS hz hp' L aA bA x dx as bs aj least whole cd'->KK .next m hp') :
  EXs (model PW W0) A (λ_ _=>False) B (vEnv L) (kids e1S) m hp KK:=by
 change EXs _ _ _ _ _ [m1B 0] _ _ _;refine hide λ_ Z=>?_;have T:=Zev U.ka U.kb aj;have hla:=T.la;have hlb:=T.lb;have hlen:=T.len;obtain ⟨may,Iy,_,_,hnoy,_⟩:=W.M.keep;have hdy1:=Iy.at_;have hdy2:=W.le _ _ hdy1;obtain ⟨max,Ix,_,_,hnox,_⟩:=MM.keep;apply Z;clear Z;have hdx2:=le _ _ Ix.at_;have dxy:dx≠dy:=λe=>by rw[<-e,W.nd]at hdy1;cases hdy1
 have dyL:dy≠L:=Iy.dL;have ax:aA≠dx:=λe=>by have:=U.a;rw[e,hdx2]at this;cases this
 have bx:bA≠dx:=λe=>by have:=U.b;rw[e,hdx2]at this;cases this
 have ay:aA≠dy:=λe=>by have:=U.a;rw[e,hdy2]at this;cases this
 have by_:bA≠dy:=λe=>by have:=U.b;rw[e,hdy2]at this;cases this
 have nmt:=N.mt;have nl:=N.l;refine Zac (Za5 (Zad (Za4 (Zab (Zdt G (clsS W0) (f:=210) (by kernel_rfl) (by kernel_rfl) (by kernel_rfl) (Zaa nmt ⟨x,dx,_,rfl,Ix.le le,hnox "get_opcodes" (by decide),?_⟩))))));refine Zd5 (as:=as) (bs:=bs) (aj:=aj) G hh (by (exact ul ‹_› (by decide))) (by (exact ul ‹_› (by decide))) le MM kc (.own U.a U.aL) (.own U.b U.bL) (by (exact Nat.le_trans ‹_› (by decide))) (by (exact Nat.le_trans ‹_› (by decide))) T.raw T.res λhp1 hq1 mb1 r hrL hr hpr le1 MM1 hqr hqn keep1=>?_;refine Zae ⟨sz rfl,λlA hlA hlAL=>?_⟩;have l1:Hp.Le hp1 (hp1.set lA (.list [.ref r])):=(Hp.Le.refl _).set hlA _;have dy1:=keep1 dy _ (Ne.symm dxy) dyL hdy2;have rdy:r≠dy:=λe=>by rw[e,dy1]at hpr;cases hpr
 have lr:lA≠r:=Ne.symm (Hp.ne_of hpr hlA);have ldy:lA≠dy:=Ne.symm (Hp.ne_of dy1 hlA);have rold:∀ z o,hqa z=some o->z≠r:=λz o e h=>by
  rcases hr with ⟨-,h2⟩ | ⟨o',h2⟩
  .rw [<-h,W.le _ _ e]at h2;cases h2
  .rw [h,W.nr r o' h2]at e;cases e
 have lea:Hp.Le hqa (hp1.set lA (.list [.ref r])):=λz o e=>l1 _ _ (keep1 z o (λh=>by rw[h,W.nd]at e;cases e) (λh=>by rw[show z=L from h,W.nL]at e;cases e) (W.le _ _ e));have a1:=l1 _ _ (keep1 aA _ ax U.aL U.a);have b1:=l1 _ _ (keep1 bA _ bx U.bL U.b);refine Zpl G (Zel W0) rfl (Zd4 G (Zg4 W0) (λ_=>VR_ref) ⟨rfl,?_⟩);refine Zab (Za4 (Zab (Zdt G (clsS W0) (f:=210) (by kernel_rfl) (by kernel_rfl) (by kernel_rfl) (Zaa ga ⟨y,dy,_,rfl,Iy.le lea,hnoy "get_opcodes" (by decide),?_⟩))));refine Zd5 (as:=as) (bs:=bs) (aj:=aj) (cd:=none) G hh (by (exact ul ‹_› (by decide))) (by (exact ul ‹_› (by decide))) lea W.M ⟨rfl,rfl⟩ (.own a1 U.aL) (.own b1 U.bL) (by (exact Nat.le_trans ‹_› (by decide))) (by (exact Nat.le_trans ‹_› (by decide))) T.raw T.res λhp2 hq2 mb2 r2 hr2L hr2 hpr2 le2 MM2 hqr2 hqn2 keep2=>?_;refine Zae ⟨sz rfl,λgA hgA hgAL=>Zab (Zaa nl (Zae ?_))⟩;have l2:Hp.Le hp2 (hp2.set gA (.list [.ref r2])):=(Hp.Le.refl _).set hgA _;have gr2:gA≠r2:=Ne.symm (Hp.ne_of hpr2 hgA);have hr2':(hp2.set gA (.list [.ref r2])) r2=some (.list ((codesF as bs aj).map oAV)):=l2 _ _ hpr2;refine Zij (k:=least) (gs:=[codesF as bs aj]) (ys:=[r2]) G hh (by (exact ul ‹_› (by decide))) (by (exact ul0 ‹_›)) (Hp.ss ..) hgAL (Ls.one hr2') (λz hz=>by rw[List.mem_singleton.mp hz];exact hr2L) (by simp) (λg hg=>by rw[List.mem_singleton.mp hg];(exact Nat.le_trans ‹_› (by decide))) ?_ λhp3 dA zs d1 d2 d3 d4 d5 d6 d7=>?_
 .by_cases h:codesF as bs aj=[]
  .exact .inl (.inr (by rw[h];rfl))
  .exact .inr λg hg=>by rw[List.mem_singleton.mp hg];exact h
 have fin:∀ z o,hp1 z=some o->z≠dy->z≠L->hp3 z=some o:=λz o e z1 z2=>d6 z o z2 (l2 _ _ (keep2 z o z1 z2 (l1 _ _ e)));have hl3:hp3 lA=some (.list ([r].map .ref)):=d6 _ _ hlAL (l2 _ _ (keep2 lA _ ldy hlAL (Hp.ss ..)));have hr3:=fin r _ hpr rdy hrL;have law:=Zlh (k:=least) T.even;rw[<-U.eq]at law;refine Zfi (RD.list (.own hl3 hlAL) (Zbv (Ls.one hr3) λz hz=>by rw[List.mem_singleton.mp hz];exact hrL)) (RD.list (.own d3 d2) (Zbv d4 λz hz=>(d5 z hz).2)) (Zbi _) (Zbi _) (by (exact ul ‹_› (by decide))) (Zaj ?_);refine Zbl (by rw[law,Zcw];rfl) (Zaf (Zaf (hK hp3 (some (r,opsC cd (codesF as bs aj))) ?_)));have hrn:r≠aA/\r≠bA/\hz r=none:=by
  rcases hr with ⟨-,h2⟩ | ⟨o',h2⟩
  .exact ⟨λh=>(by rw[h,U.a]at h2;cases h2),λh=>(by rw[h,U.b]at h2;cases h2),U.z.none h2⟩
  .exact U.cr r o' h2
 refine ⟨fin _ _ (keep1 aA _ ax U.aL U.a) ay U.aL,fin _ _ (keep1 bA _ bx U.bL U.b) by_ U.bL,U.aL,U.bL,U.ab,U.ka,U.kb,⟨hq1.del L,mb1,.ref r,λz o e=>?_,MM1.move λz o e _ hz=>⟨(Hp.del_ne _ (show z≠L from hz)).trans e,hz⟩,rfl,(Hp.del_le _ _).none hqr,hrL,hr3⟩,λr' l er=>by cases er;exact hrn,λz o e=>?_,U.zd,U.zL,U.eq,U.l0,U.wa,U.wb⟩
 .by_cases hzL:z=L
  .subst hzL;simp[Hp.del]at e
  .rw [Hp.del_ne _ hzL]at e;exact fin z o (le1 _ _ e) (λh=>by rw[h,hqn _ hdy]at e;cases e) hzL
 .have zd:z≠dx:=λh=>by rw[h,U.zd]at e;cases e
  have zL:z≠L:=λh=>by rw[h,U.zL]at e;cases e
  exact fin z o (keep1 z o zd zL (U.z _ _ e)) (λh=>by rw[h,hdz]at e;cases e) zL
end
noncomputable def e3S:Stmt:=(kidE e1S).getD 0 (.Pass default)
noncomputable def e2S:Stmt:=(kidE e3S).getD 1 (.Pass default)
noncomputable abbrev Nxt (hz:Hp) (L x dx:Addr) (aj:Bool) (whole:Int) (m:Loc) (KK:QX):Prop:=
 ∀ m' hp' aA' bA' as' bs' least' cd',LS hz hp' L aA' bA' x dx as' bs' aj least' whole cd'->LN m' aA' bA' x aj least' whole->(∀ y,y ∉ ["first", "second", "least", "told", "group"]->m' (S y)=m (S y))->KK .next m' hp'
theorem Zen {as bs:List Int}{aj:Bool}{whole:Int} (ka:Blk 61 as) (kb:Blk 61 bs) (h:(as.length:Int)<=whole):opsC none (codesF as bs aj)=Zbf whole (codesF as bs aj):=
 (Zon (Zev ka kb aj).even λo ho e=>Int.le_trans ((Zev ka kb aj).size o ho e) h).symm
section
variable {A:Around}{E:ET}{B:Shared}{m:Loc}{hz hp:Hp}{L aA bA x dx y dy:Addr}{as bs:List Int}{aj:Bool}{least whole n:Int}{cd:Option (Addr × List Op)}{KK:QX}
theorem br3 {hq:Hp}{mb op:AV} (G:Gnd (KW W0) B) (hroom:A.depth + 40 < recursionLimit) (U:LS hz hp L aA bA x dx as bs aj least whole cd) (le:Hp.Le hq hp) (MM:MT hq L x dx (.ref aA) (.ref bA) bs aj mb op) (N:LN m aA bA x aj least whole)
  (hK:Nxt hz L x dx aj whole m KK):EXs (model PW W0) A (λ_ _=>False) B (vEnv L) (kids e3S) m hp KK:=by
 refine hide λ_ Z=>?_;obtain ⟨max,Ix,_,_,hnox,_⟩:=MM.keep;apply Z;clear Z;refine Zac (Zdr (Zck G (clsS W0) (f:=167) (by kernel_rfl) (by kernel_rfl) (by kernel_rfl) (Zaa N.mt ⟨x,dx,_,rfl,Ix.le le,hnox "set_seqs" (by decide),Zab (Zaa N.f (Zab (Zaa N.s (Zae ?_))))⟩)));refine Zpm G (by (exact ul ‹_› (by decide))) (MM.le le) (.own U.a U.aL) (.own U.b U.bL) (Zaf (hK m hp _ _ _ _ _ _ U N λ_ _=>rfl))
theorem brE {hq:Hp}{mb op:AV}{call:Int} (G:Gnd (KW W0) B) (hh:A.handled=none) (hroom:A.depth + 40 < recursionLimit) (U:LS hz hp L aA bA x dx as bs aj least whole cd) (le:Hp.Le hq hp) (MM:MT hq L x dx (.ref aA) (.ref bA) bs aj mb op) (N:LN m aA bA x aj least whole) (gc:m (S "call")=some (.int call))
  (hK:Nxt hz L x dx aj whole m KK):EXs (model PW W0) A (λ_ _=>False) B (vEnv L) (kidE e3S) m hp KK:=by
 change EXs _ _ _ _ _ [(kidE e3S).getD 0 (.Pass default),e2S] _ _ _;refine hide λ_ Z=>?_;have T:=Zev U.ka U.kb aj;have hla:=T.la;have hlb:=T.lb;have M1:=MM.le le;obtain ⟨max,Ix,_,_,hnox,_⟩:=M1.keep;apply Z;clear Z;have hdx:=Ix.at_;have ax:aA≠dx:=λe=>by have:=U.a;rw[e,hdx]at this;cases this
 have bx:bA≠dx:=λe=>by have:=U.b;rw[e,hdx]at this;cases this
 have zk:∀ z o,hz z=some o->z≠dx/\z≠L:=λz o e=>⟨λh=>(by rw[h,U.zd]at e;cases e),λh=>(by rw[h,U.zL]at e;cases e)⟩;refine Zac (Zan (Zaa N.w ?_));have n1:(upd m (S "least") (.int whole)) (S "call")=some (.int call):=by assumption
 have n2:LN (upd m (S "least") (.int whole)) aA bA x aj whole whole:=by have a1:=N.f;have a2:=N.s;have a3:=N.w;have a4:=N.mt;have a5:=N.p;exact ⟨by assumption,by assumption,by rfl,by assumption,by assumption,by assumption⟩
 have n3:∀ y,y ∉ ["first", "second", "least", "told", "group"]->(upd m (S "least") (.int whole)) (S y)=m (S y):=λy hy=>updO hy rfl;have w0 : 0<=whole:=by have:=U.wa;(exact F11 0x704877380 0x11 rfl this)
 generalize upd m (S "least") (.int whole)=m1 at n1 n2 n3 ⊢;refine Zac (Za5 (Zad (Zaa n1 (Zal (Zd2 (Zaj ?_))))));by_cases h2:call=2
 .refine Zbq (by rw[h2];rfl) ?_;refine Zac (Za1 hh (names:=[S "first",S "second"]) (Zar (Zab (Zaa n2.s (Zab (Zaa n2.f (Zae ⟨sz rfl,_,rfl,rfl,Zap (Zap (Zas ?_))⟩)))))))
  try dsimp only
  generalize hm2:upd (upd m1 _ _) _ _=m2;have k1:LN m2 bA aA x aj whole whole:=by have a1:=n2.l;have a3:=n2.w;have a4:=n2.mt;have a5:=n2.p;subst hm2;exact ⟨by rfl,by rfl,by assumption,by assumption,by assumption,by assumption⟩
  have k2:∀ y,y ∉ ["first", "second", "least", "told", "group"]->m2 (S y)=m (S y):=λy hy=>by subst hm2;exact updO hy (updO hy (n3 y hy))
  clear hm2;refine Zac (Zdr (Zck G (clsS W0) (f:=167) (by kernel_rfl) (by kernel_rfl) (by kernel_rfl) (Zaa k1.mt ⟨x,dx,_,rfl,Ix,hnox "set_seqs" (by decide),Zab (Zaa k1.f (Zab (Zaa k1.s (Zae ?_))))⟩)));refine Zpp G hh (by (exact ul ‹_› (by decide))) M1 (.own U.a U.aL) (.own U.b U.bL) (.own U.b U.bL) (.own U.a U.aL) (Ne.symm U.ab) U.ab (T.fa) (by (exact Nat.le_trans ‹_› (by decide))) λhp' M2 keep _=>Zaf (Zaf ?_);exact hK m2 hp' bA aA bs as whole none ⟨keep _ _ bx U.bL U.b,keep _ _ ax U.aL U.a,U.bL,U.aL,Ne.symm U.ab,U.kb,U.ka,⟨hp',.none,.none,.refl _,M2,rfl,rfl⟩,λr l e=>(by cases e),λz o e=>keep z o (zk z o e).1 (zk z o e).2 (U.z _ _ e),U.zd,U.zL,Zen U.kb U.ka U.wb,w0,U.wb,U.wa⟩ k1 k2
 .refine Zbl (by exact if_neg h2) ?_;refine Zac (Za5 (Zad (Zaa n1 (Zal (Zd2 (Zaj ?_))))));by_cases h4:call=4
  .refine Zbq (by rw[h4];rfl) ?_;refine Zac (Zan (Zhm (Zaa n2.f (Zds (Zal ⟨1,rfl,aA,_,rfl,rfl,.own U.a U.aL,by rw[List.length_map];(exact Nat.le_trans ‹_› (by decide)),λc hc hcL=>?_⟩)))));refine List.map_reverse▸?_;have ac:aA≠c:=Hp.ne_of U.a hc;have bc:bA≠c:=Hp.ne_of U.b hc;have l1:Hp.Le hp (hp.set c (.list (as.reverse.map .int))):=(Hp.Le.refl _).set hc _;have cx:c≠dx:=Ne.symm (Hp.ne_of hdx hc);show EXs _ _ _ _ _ _ (upd m1 (S "first") (.ref c)) _ _;generalize hm2:upd m1 (S "first") (.ref c)=m2;have k1:LN m2 c bA x aj whole whole:=by have a2:=n2.s;have a1:=n2.l;have a3:=n2.w;have a4:=n2.mt;have a5:=n2.p;subst hm2;exact ⟨by rfl,by assumption,by assumption,by assumption,by assumption,by assumption⟩
   have k2:∀ y,y ∉ ["first", "second", "least", "told", "group"]->m2 (S y)=m (S y):=λy hy=>by subst hm2;exact updO hy (n3 y hy)
   clear hm2;refine Zac (Zdr (Zck G (clsS W0) (f:=174) (by kernel_rfl) (by kernel_rfl) (by kernel_rfl) (Zaa k1.mt ⟨x,dx,_,rfl,Ix.le l1,hnox "set_seq1" (by decide),Zab (Zaa k1.f (Zae ?_))⟩)));refine Zpr G (by (exact ul0 ‹_›)) (M1.le l1) (.own (l1 _ _ U.a) U.aL) (.own (Hp.ss ..) hcL) (Ne.symm ac) λhp' M2 keep=>Zaf (Zaf (Zaf ?_));exact hK m2 hp' c bA as.reverse bs whole none ⟨keep _ _ cx (Hp.ss ..),keep _ _ bx (l1 _ _ U.b),hcL,U.bL,Ne.symm bc,U.ka.rev,U.kb,⟨hp',.none,.none,.refl _,M2,rfl,rfl⟩,λr l e=>(by cases e),λz o e=>keep z o (zk z o e).1 (l1 _ _ (U.z _ _ e)),U.zd,U.zL,Zen U.ka.rev U.kb (by rw[List.length_reverse];exact U.wa),w0,by rw[List.length_reverse];exact U.wa,U.wb⟩ k1 k2
  .refine Zbl (by exact if_neg h4) ?_;refine Zac (Zan (Zhm (Zaa n2.s (Zds (Zal ⟨1,rfl,bA,_,rfl,rfl,.own U.b U.bL,by rw[List.length_map];(exact Nat.le_trans ‹_› (by decide)),λc hc hcL=>?_⟩)))));refine List.map_reverse▸?_;have ac:aA≠c:=Hp.ne_of U.a hc;have bc:bA≠c:=Hp.ne_of U.b hc;have l1:Hp.Le hp (hp.set c (.list (bs.reverse.map .int))):=(Hp.Le.refl _).set hc _;have cx:c≠dx:=Ne.symm (Hp.ne_of hdx hc);show EXs _ _ _ _ _ _ (upd m1 (S "second") (.ref c)) _ _;generalize hm2:upd m1 (S "second") (.ref c)=m2;have k1:LN m2 aA c x aj whole whole:=by have a2:=n2.f;have a1:=n2.l;have a3:=n2.w;have a4:=n2.mt;have a5:=n2.p;subst hm2;exact ⟨by assumption,by rfl,by assumption,by assumption,by assumption,by assumption⟩
   have k2:∀ y,y ∉ ["first", "second", "least", "told", "group"]->m2 (S y)=m (S y):=λy hy=>by subst hm2;exact updO hy (n3 y hy)
   clear hm2;refine Zac (Zdr (Zck G (clsS W0) (f:=181) (by kernel_rfl) (by kernel_rfl) (by kernel_rfl) (Zaa k1.mt ⟨x,dx,_,rfl,Ix.le l1,hnox "set_seq2" (by decide),Zab (Zaa k1.s (Zae ?_))⟩)));refine Zpq G hh (by (exact ul ‹_› (by decide))) (M1.le l1) (.own (l1 _ _ U.b) U.bL) (.own (Hp.ss ..) hcL) (Ne.symm bc) (U.kb.rev.few (Nat.le_refl _) aj) (by rw[List.length_reverse];(exact Nat.le_trans ‹_› (by decide))) λhp' M2 keep _=>Zaf (Zaf (Zaf ?_));exact hK m2 hp' aA c as bs.reverse whole none ⟨keep _ _ ax U.aL (l1 _ _ U.a),keep _ _ cx hcL (Hp.ss ..),U.aL,hcL,ac,U.ka,U.kb.rev,⟨hp',.none,.none,.refl _,M2,rfl,rfl⟩,λr l e=>(by cases e),λz o e=>keep z o (zk z o e).1 (zk z o e).2 (l1 _ _ (U.z _ _ e)),U.zd,U.zL,Zen U.ka U.kb.rev U.wa,w0,U.wa,by rw[List.length_reverse];exact U.wb⟩ k1 k2
end
noncomputable def cutN (hp:Hp) (L dx:Addr) (cd:Option (Addr × List Op)):Hp:=λz=>if z=L\/z=dx\/cd.map (·.1)=some z then none else hp z
theorem Zma {hp:Hp}{L dx z:Addr}{cd:Option (Addr × List Op)} (h1:z≠L) (h2:z≠dx) (h3:∀ r l,cd=some (r,l)->z≠r):cutN hp L dx cd z=hp z:=by
 unfold cutN;rw[if_neg];rintro (h | h | h)
 .exact h1 h
 .exact h2 h
 .cases cd with
  | none=>cases h
  | some p=>exact h3 p.1 p.2 rfl (Option.some.inj h).symm
theorem Zrc (hp:Hp) (L dx:Addr) (cd:Option (Addr × List Op)):Hp.Le (cutN hp L dx cd) hp:=λz o e=>by
 unfold cutN at e;split at e
 .cases e
 .exact e
theorem Zh3 {hp:Hp}{L dx z:Addr}{cd:Option (Addr × List Op)} (h:z=L\/z=dx\/cd.map (·.1)=some z):cutN hp L dx cd z=none:=by unfold cutN;exact (if_pos h)
section
variable {A:Around}{E:ET}{B:Shared}{m:Loc}{hz hp:Hp}{L aA bA x dx:Addr}{as bs:List Int}{aj:Bool}{least whole v:Int}{cd:Option (Addr × List Op)}{KK:QX}
theorem Zsh {hp':Hp}{y dy:Addr} (U:LS hz hp L aA bA x dx as bs aj least whole cd) (hy:hp y=none) (hdy:hp dy=none) (hdx:∃ ma,hp dx=some (.atr ma)) (hr:∀ r l,cd=some (r,l)->hp r=some (.list (l.map oAV))/\r≠L) (M:MT hp' L y dy (.ref aA) (.ref bA) bs aj .none .none) (keep:∀ z o,z≠L->hp z=some o->hp' z=some o) (hdxL:dx≠L) :
  NW hp' L dx y dy aA bA bs aj (cutN hp' L dx cd) cd:=by
 obtain ⟨ma,hdx⟩:=hdx;have mL:=M.xL;have f:∀ z,hp z=none->z≠L->cutN hp' L dx cd z=hp' z:=λz e zL=>Zma zL (λh=>by rw[h,hdx]at e;cases e) λr l er h=>by rw[h,(hr r l er).1]at e;cases e
 refine ⟨M.moveO (f y hy mL.1) (f dy hdy mL.2.1) mL.1 mL.2.1 λz o e ho zL=>⟨?_,zL⟩,Zrc _ _ _ _,Zh3 (.inl rfl),Zh3 (.inr (.inl rfl)),λr l er=>Zh3 (.inr (.inr (by rw[er];rfl)))⟩;rw[Zma zL (λh=>?_) λr l er h=>?_]
 .exact e
 .rw [h,keep _ _ hdxL hdx]at e;cases e;exact ho
 .have h1:=hr r l er;rw[h,keep _ _ h1.2 h1.1]at e;cases e;cases l with
  | nil=>exact ho
  | cons o l=>exact ho
theorem Zso (G:Gnd (KW W0) B) (hh:A.handled=none) (hu:A.units + 90 < cLine) (hroom:A.depth + 40 < recursionLimit) (U:LS hz hp L aA bA x dx as bs aj least whole cd) (N:LN m aA bA x aj least whole) (gx:m (S "x")=some (.int v))
  (hK:∀ m' hp' aA' bA' as' bs' least' cd',LS hz hp' L aA' bA' x dx as' bs' aj least' whole cd'->LN m' aA' bA' x aj least' whole->KK .next m' hp'):EXs (model PW W0) A (λ_ _=>False) B (vEnv L) (kids (vS 9)) m hp KK:=by
 change EXs _ _ _ _ _ [mB 0,mB 1,mB 2] _ _ _;have T:=Zev U.ka U.kb aj;have hla:=T.la;have hlb:=T.lb;refine Zac (Za1 hh (names:=[S "n",S "call"]) (Zar (Zab (Zau (Zax G (Zsf W0) Zrg (by decide) (λ_=>Zb2) ⟨rfl,Zab (Zag (Zaa gx (Zal (Zcp (by decide) (by decide) (Zae (Ztx ?_))))))⟩)))));refine Zab (Zag (Zaa gx (Zal (Zfj (by decide) (Zae ⟨sz rfl,_,rfl,rfl,Zap (Zap (Zas ?_))⟩)))));have hn : 0<=(if v.fdiv 6 < 0 then -v.fdiv 6 else v.fdiv 6):=by split <;> lia
 generalize (if v.fdiv 6 < 0 then -v.fdiv 6 else v.fdiv 6)=n at hn ⊢
 try dsimp only
 generalize hm1:upd (upd m _ _) _ _=m1;have n1:LN m1 aA bA x aj least whole:=by have a1:=N.f;have a2:=N.s;have a3:=N.w;have a4:=N.mt;have a5:=N.p;have a6:=N.l;subst hm1;exact ⟨by assumption,by assumption,by assumption,by assumption,by assumption,by assumption⟩
 have n2:m1 (S "n")=some (.int n):=by subst hm1;(rfl)
 have n3:m1 (S "call")=some (.int (v.fmod 6)):=by subst hm1;(rfl)
 clear hm1;generalize v.fmod 6=call at n3;refine hide λ_ Z=>?_;refine aH U.M.ex λhq mb op le MM kc=>?_;obtain ⟨max,Ix,_⟩:=MM.keep;apply Z;clear Z;have hdx:=le _ _ Ix.at_;have hdxL:dx≠L:=Ix.dL;refine Zac (Zan (Zgf G (by kernel_rfl) (Zd4 G (g_SM W0) (λ_=>VR_ref) ⟨rfl,Zab (Zcc (Zab (Zaa n1.f (Zab (Zaa n1.s (Zab (Zaa n1.p (Zae ?_))))))))⟩)));refine Ztz G hh (by (exact ul ‹_› (by decide))) rfl (.list (.own U.b U.bL)) T.fb (by (exact Nat.le_trans ‹_› (by decide))) λhp1 y dy hy hdy M keep _=>?_;have hrr:∀ r l,cd=some (r,l)->hp r=some (.list (l.map oAV))/\r≠L:=λr l er=>by subst er;exact ⟨kc.2.2.2,kc.2.2.1⟩
 have W:=Zsh U hy hdy ⟨_,hdx⟩ hrr M keep hdxL;have hqL:Hp.Le (hq.del L) hp1:=λz o e=>by
  by_cases hzL:z=L
  .subst hzL;simp[Hp.del]at e
  .rw [Hp.del_ne _ hzL]at e;exact keep z o hzL (le _ _ e)
 have MM1:MT (hq.del L) L x dx (.ref aA) (.ref bA) bs aj mb op:=MM.move λz o e _ hz=>⟨(Hp.del_ne _ (show z≠L from hz)).trans e,hz⟩;have kc1:KC hp1 (hq.del L) L cd mb op:=by
  cases cd with
  | none=>exact kc
  | some r=>exact ⟨kc.1,(Hp.del_le _ _).none kc.2.1,kc.2.2.1,keep _ _ kc.2.2.1 kc.2.2.2⟩
 have hdyq:(hq.del L) dy=none:=(Hp.del_le _ _).none (le.none hdy);have hdyz:hz dy=none:=U.z.none hdy;have U1:LS hz hp1 L aA bA x dx as bs aj least whole cd:=⟨keep _ _ U.aL U.a,keep _ _ U.bL U.b,U.aL,U.bL,U.ab,U.ka,U.kb,⟨hq.del L,mb,op,hqL,MM1,kc1⟩,U.cr,λz o e=>keep z o (λh=>by rw[show z=L from h,U.zL]at e;cases e) (U.z _ _ e),U.zd,U.zL,U.eq,U.l0,U.wa,U.wb⟩;have p1:LN (upd m1 (S "anew") (.ref y)) aA bA x aj least whole:=by have a1:=n1.f;have a2:=n1.s;have a3:=n1.w;have a4:=n1.mt;have a5:=n1.p;have a6:=n1.l;exact ⟨by assumption,by assumption,by assumption,by assumption,by assumption,by assumption⟩
 have p2:(upd m1 (S "anew") (.ref y)) (S "n")=some (.int n):=by assumption
 have p3:(upd m1 (S "anew") (.ref y)) (S "call")=some (.int call):=by assumption
 have p4:(upd m1 (S "anew") (.ref y)) (S "anew")=some (.ref y):=by rfl
 show EXs _ _ _ _ _ _ (upd m1 (S "anew") (.ref y)) _ _;generalize upd m1 (S "anew") (.ref y)=m2 at p1 p2 p3 p4 ⊢;refine Zac (Za5 (Zad (Zaa p3 (Zal (Zd2 (Zaj ?_))))));by_cases h0:call=0
 .refine Zbq (by rw[h0];rfl) ?_;exact br0 G hh hu hroom U1 hqL MM1 kc1 hdyq hdyz W p1 p2 p4 hn λm' hp' cd' u l _=>Zaf (hK m' hp' _ _ _ _ _ cd' u l)
 .refine Zbl (by exact if_neg h0) ?_;change EXs _ _ _ _ _ [e1S] _ _ _;refine Zac (Za5 (Zad (Zaa p3 (Zal (Zd2 (Zaj ?_))))));by_cases h1:call=1
  .refine Zbq (by rw[h1];rfl) ?_;exact br1 G hh hu hroom U1 hqL MM1 kc1 hdyq hdyz W p1 p4 λhp' cd' u=>Zaf (Zaf (hK m2 hp' _ _ _ _ _ cd' u p1))
  .refine Zbl (by exact if_neg h1) ?_;change EXs _ _ _ _ _ [e3S] _ _ _;refine Zac (Za5 (Zad (Zaa p3 (Zal (Zd2 (Zaj ?_))))));by_cases h3:call=3
   .refine Zbq (by rw[h3];rfl) ?_;exact br3 G hroom U1 hqL MM1 p1 λm' hp' aA' bA' as' bs' l' cd' u l _=>Zaf (Zaf (Zaf (hK m' hp' aA' bA' as' bs' l' cd' u l)))
   .refine Zbl (by exact if_neg h3) ?_;exact brE G hh hroom U1 hqL MM1 p1 p3 λm' hp' aA' bA' as' bs' l' cd' u l _=>Zaf (Zaf (Zaf (hK m' hp' aA' bA' as' bs' l' cd' u l)))
end
section
variable {A:Around}{E:ET}{B:Shared}{m:Loc}{hz hp:Hp}{L aA bA x dx:Addr}{as bs:List Int}{aj:Bool}{least whole:Int}{cd:Option (Addr × List Op)}{KK:QX}
theorem LS.into {it:Addr}{ob:Obj} (U:LS hz hp L aA bA x dx as bs aj least whole cd) (hit:hp it=none) (hitL:it≠L) (hd:dx≠it):LS (hz.set it (.obj ob)) (hp.set it (.obj ob)) L aA bA x dx as bs aj least whole cd:=by
 have l:Hp.Le hp (hp.set it (.obj ob)):=(Hp.Le.refl _).set hit _;refine ⟨l _ _ U.a,l _ _ U.b,U.aL,U.bL,U.ab,U.ka,U.kb,U.M.le l,λr k e=>⟨(U.cr r k e).1,(U.cr r k e).2.1,Hp.snt (λh=>?_) (U.cr r k e).2.2⟩,λz o e=>?_,Hp.snt hd U.zd,Hp.snt (Ne.symm hitL) U.zL,U.eq,U.l0,U.wa,U.wb⟩
 .refine aH U.M.ex λhq mb op le MM c=>?_;subst e;rw[show r=it from h]at c;rw[c.2.2.2]at hit;cases hit
 .by_cases h:z=it
  .subst h;rw[Hp.ss]at e ⊢;exact e
  .rw [Hp.sn _ _ h]at e ⊢;exact U.z _ _ e
theorem LS.outof {it:Addr}{ob:Obj} (U:LS (hz.set it (.obj ob)) hp L aA bA x dx as bs aj least whole cd) (hzi:hz it=none) (hx:x≠it) (hd:dx≠it) (hitL:it≠L):hp it=some (.obj ob)/\LS hz (hp.del it) L aA bA x dx as bs aj least whole cd:=by
 have hit:hp it=some (.obj ob):=U.z _ _ (Hp.ss ..);refine ⟨hit,?_⟩;refine hide λ_ Z=>?_;have lk:∀ z xs,hp z=some (.list xs)->(hp.del it) z=some (.list xs):=λz xs e=>by rw[Hp.del_ne _ (λh=>by rw[h,hit]at e;cases e)];exact e
 refine aH U.M.ex λhq mb op le MM c=>?_;apply Z;clear Z;have mL:=MM.xL;refine ⟨lk _ _ U.a,lk _ _ U.b,U.aL,U.bL,U.ab,U.ka,U.kb,⟨hq.del it,mb,op,λz o e=>?_,MM.moveO (Hp.del_ne _ hx) (Hp.del_ne _ hd) mL.1 mL.2.1 λz o e ho zL=>⟨?_,zL⟩,?_⟩,λr k e=>⟨(U.cr r k e).1,(U.cr r k e).2.1,?_⟩,λz o e=>?_,Hp.snr hd U.zd,Hp.snr (Ne.symm hitL) U.zL,U.eq,U.l0,U.wa,U.wb⟩
 .by_cases h:z=it
  .subst h;simp[Hp.del]at e
  .rw [Hp.del_ne _ h]at e ⊢;exact le _ _ e
 .rw [Hp.del_ne _ (λh=>?_)]
  .exact e
  .rw [h]at e;have:=le _ _ e;rw[hit]at this;cases this;exact ho
 .cases cd with
  | none=>exact c
  | some r=>exact ⟨c.1,(Hp.del_le _ _).none c.2.1,c.2.2.1,lk _ _ c.2.2.2⟩
 .have h1:=(U.cr r k e).2.2;by_cases h:r=it
  .rw [h,Hp.ss]at h1;cases h1
  .rwa [Hp.sn _ _ h]at h1
 .have h:z≠it:=λh=>by rw[h,hzi]at e;cases e
  rw[Hp.del_ne _ h];exact U.z _ _ (Hp.snt h e)
theorem Zsr {nA:Addr}{nums:List Int}{cut way:Int} (G:Gnd (KW W0) B) (hh:A.handled=none) (hu:A.units + 90 < cLine) (hroom:A.depth + 40 < recursionLimit) (R:Rdy hp L nA nums cut way aj m) (U:LS (λ_=>none) hp L aA bA x dx as bs aj least whole cd) (N:LN m aA bA x aj least whole)
  (hK:∀ m' hp',KK .next m' hp'):EX (model PW W0) A (λ_ _=>False) B (vEnv L) (vS 9) m hp KK:=by
 refine Zd3 hh (Zag (Zep (Zaa R.g1 (Zaa R.g2 ⟨nA,nums.map .int,some cut,none,rfl,.own R.n R.nL,by rw[List.length_map];exact sz' (by have:=R.len;(exact Nat.le_trans ‹_› (by decide))),rfl,rfl,λc hc hcL=>?_⟩))));rw[Zdg];have hpl:=Zei nums (some cut) none;have hnl:=R.len;generalize pick nums (some cut) none=ps at hpl ⊢;have l1:Hp.Le hp (hp.set c (.list (ps.map .int))):=(Hp.Le.refl _).set hc _;refine Za4 (Zab (Zal (Zab (Zal (Zae ⟨sz rfl,λf hf hfL=>?_⟩)))));have l2:=l1.set (l1.none hf) (.list [AV.int 6,.int 1]);have cf:c≠f:=Hp.ne_of (Hp.ss ..) hf;refine Zrm (Hp.snt cf (Hp.ss ..)) hcL (Hp.ss ..) hfL (by rw[List.length_map];exact sz' (by simp;lia)) λq hq hqL=>?_;refine (show ps.map AV.int ++ [.int 6,.int 1]=(ps ++ [6,1]).map .int from by rw[List.map_append];rfl)▸?_;have l3:=l2.set (l2.none hq) (.list ((ps ++ [6,1]).map .int));have hq0:=l2.none hq;have hqs:((((hp.set c (.list (ps.map .int))).set f (.list [AV.int 6,.int 1])).set q (.list ((ps ++ [6,1]).map .int)))) q=some (.list ((ps ++ [6,1]).map .int)):=Hp.ss ..;generalize ((hp.set c (.list (ps.map .int))).set f (.list [AV.int 6,.int 1])).set q (.list ((ps ++ [6,1]).map .int))=hp1 at l3 hqs ⊢;refine hide λ_ Z=>?_;refine aH U.M.ex λhqm mb op le MM kc=>?_;obtain ⟨max,Ix,_⟩:=MM.keep;apply Z;clear Z;have hdx:=le _ _ Ix.at_;have hxo:=le _ _ Ix.ob;have dq:dx≠q:=Hp.ne_of hdx hq0;have U1:LS (Hp.set (λ_=>none) q (.list ((ps ++ [6,1]).map .int))) hp1 L aA bA x dx as bs aj least whole cd:=by
  refine ⟨l3 _ _ U.a,l3 _ _ U.b,U.aL,U.bL,U.ab,U.ka,U.kb,U.M.le l3,λr k e=>⟨(U.cr r k e).1,(U.cr r k e).2.1,Hp.sn _ _ (λh=>?_)⟩,λz o e=>?_,Hp.sn _ _ dq,Hp.sn _ _ (Ne.symm hqL),U.eq,U.l0,U.wa,U.wb⟩
  .subst e;rw[show r=q from h]at kc;rw[kc.2.2.2]at hq0;cases hq0
  .by_cases h:z=q
   .subst h;rw[Hp.ss]at e;rw[hqs];exact e
   .rw [Hp.sn _ _ h]at e;cases e
 refine ⟨q,_,rfl,.own hqs hqL,λit hit hitL=>?_⟩;have dit:dx≠it:=Hp.ne_of (l3 _ _ hdx) hit;have xit:x≠it:=Hp.ne_of (l3 _ _ hxo) hit;have qit:q≠it:=Hp.ne_of hqs hit;have hzi:(Hp.set (λ_=>none) q (.list ((ps ++ [6,1]).map AV.int))) it=none:=Hp.sn _ _ (Ne.symm qit);let Iq:Nat->Loc->Hp->Prop:=λi m₂ hp₂=>∃ hpZ ob aA' bA' as' bs' least' cd',hp₂=hpZ.set it (.obj ob)/\hpZ it=none/\LS (Hp.set (λ_=>none) q (.list ((ps ++ [6,1]).map .int))) hpZ L aA' bA' x dx as' bs' aj least' whole cd'/\LN m₂ aA' bA' x aj least' whole;refine ⟨Iq,λob=>⟨hp1,ob,aA,bA,as,bs,least,cd,rfl,hit,U1,N⟩,λi m₂ hp₂ ob y=>?_,λi m₂ hp₂ y=>?_,λi xv m₂ hp₂ ob hx y hob=>?_,λm₂ hp₂ _=>hK m₂ _⟩
 .refine hide λ_ Z=>?_;obtain ⟨hpZ,ob0,aA',bA',as',bs',least',cd',rfl,y1,y2,y3⟩:=y;apply Z;clear Z;exact ⟨hpZ,ob,aA',bA',as',bs',least',cd',Hp.set_set ..,y1,y2,y3⟩
 .refine hide λ_ Z=>?_;obtain ⟨hpZ,ob0,aA',bA',as',bs',least',cd',rfl,y1,y2,y3⟩:=y;apply Z;clear Z;exact .own (Hp.snt qit (y2.z _ _ (Hp.ss ..))) hqL
 .refine hide λ_ Z=>?_;obtain ⟨hpZ,ob0,aA',bA',as',bs',least',cd',rfl,y1,y2,y3⟩:=y;rw[Hp.ss]at hob;cases hob;rw[List.getElem?_map]at hx;obtain ⟨v,hv,rfl⟩:=Option.map_eq_some_iff.mp hx;apply Z;clear Z;refine Zai ?_;refine Zcb λKT hT=>?_;refine Zso (v:=v) G hh hu hroom (y2.into (ob:=ob) y1 hitL dit) ?_ (by rfl) λm' hp' aA2 bA2 as2 bs2 least2 cd2 U2 N2=>hT _ _ _ ?_
  .have a1:=y3.f;have a2:=y3.s;have a3:=y3.w;have a4:=y3.mt;have a5:=y3.p;have a6:=y3.l;exact ⟨by assumption,by assumption,by assumption,by assumption,by assumption,by assumption⟩
  .obtain ⟨z1,z2⟩:=U2.outof hzi xit dit hitL;refine ⟨⟨hp'.del it,ob,aA2,bA2,as2,bs2,least2,cd2,?_,by simp[Hp.del],z2,N2⟩,z1⟩;funext z;by_cases hz:z=it
   . (rw[hz,Hp.ss];exact z1)
   .rw [Hp.sn _ _ hz,Hp.del_ne _ hz]
end
section
variable {A:Around}{E:ET}{B:Shared}{m:Loc}{hp:Hp}{L:Addr}{KK:QX}
theorem Zst (hh:A.handled=none)
  (hK:∀ m' hp' aA bA,hp' aA=some (.list [])->hp' bA=some (.list [])->aA≠L->bA≠L->aA≠bA->hp aA=none->hp bA=none->Hp.Le hp hp'->m' (S "first")=some (.ref aA)->m' (S "second")=some (.ref bA)->(∀ y,y ∉ ["first", "second"]->m' (S y)=m (S y))->KK .next m' hp'):EX (model PW W0) A E B (vEnv L) (vS 4) m hp KK:=by
 refine Za1 hh (names:=[S "first",S "second"]) (Zar (Zab (Za4 (Zae ⟨sz rfl,λaA hA hAL=>Zab (Za4 (Zae ⟨sz rfl,λbA hB hBL=>Zae ⟨sz rfl,_,rfl,rfl,Zap (Zap (Zas ?_))⟩⟩))⟩))));have l1:Hp.Le hp (hp.set aA (.list [])):=(Hp.Le.refl _).set hA _;have ab:aA≠bA:=Hp.ne_of (Hp.ss ..) hB;exact hK _ _ aA bA (Hp.snt ab (Hp.ss ..)) (Hp.ss ..) hAL hBL ab hA (l1.none hB) (l1.set (l1.none hB) _) (by rfl) (by rfl) λy hy=>updO hy (updO hy rfl)
theorem Zol {nA aA bA:Addr}{nums:List Int}{cut way:Int}{aj:Bool}{as bs:List Int} (G:Gnd (KW W0) B) (hh:A.handled=none) (hroom:A.depth + 40 < recursionLimit) (R:Rdy hp L nA nums cut way aj m) (F:FS hp L aA bA 61 as bs) (aL:aA≠L) (bL:bA≠L) (ab:aA≠bA) (g5:m (S "first")=some (.ref aA)) (g6:m (S "second")=some (.ref bA)) {rest:List Stmt}
  (hK:∀ m' hp' x dx whole,Rdy hp' L nA nums cut way aj m'->LS (λ_=>none) hp' L aA bA x dx as bs aj whole whole none->LN m' aA bA x aj whole whole->EXs (model PW W0) A E B (vEnv L) rest m' hp' KK):EXs (model PW W0) A E B (vEnv L) (vS 6 :: vS 7 :: vS 8 :: rest) m hp KK:=by
 have la:=F.ka.len;have lb:=F.kb.len;have ln:∀ {xA:Addr}{xs:List Int}{Q:QV},hp xA=some (.list (xs.map .int))->xA≠L->xs.length<=488->Q (.int (xs.length:Nat)) hp->CL (model PW W0) A E B (vEnv L) (.builtin "len") m [.ref xA] hp Q:=λ{xA xs Q} h1 h2 h3 h=>Zec (.own h1 h2) (by rw[List.length_map];exact sz' (by (exact Nat.le_trans ‹_› (by decide)))) (by rw[List.length_map];exact h);refine Zac (Zan (Zag (Zau (Zax G (Zct W0) Zb9 (by decide) (λ_=>Zb2) ⟨rfl,Zab (Zaa g5 (Zae (ln F.a aL (by omega) ?_)))⟩))));refine Zau (Zax G (Zct W0) Zb9 (by decide) (λ_=>Zb2) ⟨rfl,Zab (Zaa g6 (Zae (ln F.b bL (by omega) (Zav ?_))))⟩);refine Zac (Zan (Zaa (v:=.int ((as.length:Int) + (bs.length:Int))) (by rfl) ?_));generalize hwh:(as.length:Int) + (bs.length:Int)=whole;have h1:=R.g1;have h2:=R.g2;have h3:=R.g3;have h4:=R.g4;have k1:(upd (upd m (S "whole") (.int whole)) (S "least") (.int whole)) (S "first")=some (.ref aA):=by assumption
 have k2:(upd (upd m (S "whole") (.int whole)) (S "least") (.int whole)) (S "second")=some (.ref bA):=by assumption
 have k3:(upd (upd m (S "whole") (.int whole)) (S "least") (.int whole)) (S "popular")=some (.bool aj):=by assumption
 have k4:(upd (upd m (S "whole") (.int whole)) (S "least") (.int whole)) (S "whole")=some (.int whole):=by rfl
 have k5:(upd (upd m (S "whole") (.int whole)) (S "least") (.int whole)) (S "least")=some (.int whole):=by assumption
 have R1:Rdy hp L nA nums cut way aj (upd (upd m (S "whole") (.int whole)) (S "least") (.int whole)):=⟨R.n,R.nL,R.len,by assumption,by assumption,by assumption,by assumption⟩;show EXs _ _ _ _ _ _ (upd (upd m (S "whole") (.int whole)) (S "least") (.int whole)) _ _;generalize upd (upd m (S "whole") (.int whole)) (S "least") (.int whole)=m1 at k1 k2 k3 k4 k5 R1 ⊢;have T:=Zev F.ka F.kb aj;refine Zac (Zan (Zgf G (by kernel_rfl) (Zd4 G (g_SM W0) (λ_=>VR_ref) ⟨rfl,Zab (Zcc (Zab (Zaa k1 (Zab (Zaa k2 (Zab (Zaa k3 (Zae ?_))))))))⟩)));refine Ztz G hh (by (exact ul ‹_› (by decide))) rfl (.list (.own F.b bL)) T.fb (by (exact Nat.le_trans ‹_› (by decide))) λhp1 x dx hx hdx M keep _=>?_;have r1:=R1.g1;have r2:=R1.g2;have r3:=R1.g3;refine hK _ hp1 x dx whole ⟨keep _ _ R.nL R.n,R.nL,R.len,by assumption,by assumption,by assumption,by assumption⟩ ⟨keep _ _ aL F.a,keep _ _ bL F.b,aL,bL,ab,F.ka,F.kb,⟨hp1,.none,.none,.refl _,M,rfl,rfl⟩,λr l e=>(by cases e),λz o e=>(by cases e),rfl,rfl,Zen F.ka F.kb (by (exact fk [_,_] [_] 0x773878373090 0x101 rfl hwh)),by (exact fk [_,_] [_] 0x704878373090 0x101 rfl hwh),by lia,by (exact fk [_,_] [_] 0x783878373090 0x101 rfl hwh)⟩ ⟨by assumption,by assumption,by assumption,by assumption,by rfl,by assumption⟩
theorem Zom {l:Addr}{ns:List Int} (G:Gnd (KW W0) B) (hh:A.handled=none) (hu:A.units + 90 < cLine) (hroom:A.depth + 40 < recursionLimit) (hlen:ns.length<=63) (hl:Lst B hp L l (ns.map .int)) (g0:m (S "script")=some (.ref l)) :
  EXs (model PW W0) A (λ_ _=>False) B (vEnv L) (Za7 (topS PW 8)) m hp λf m' hp'=>f = .ret (.bool true):=by
 change EXs _ _ _ _ _ [vS 0,vS 1,vS 2,vS 3,vS 4,vS 5,vS 6,vS 7,vS 8,vS 9,vS 10] _ _ _;refine Zac (Zsx G hh hlen hl g0 λm1 hp1 cut0 way l1 a1 a2 a3=>?_);refine Zac (Zsw G hlen (hl.le l1) a3 λnA hp2 nums b1 b2 b3 b4 l2=>?_);refine Zac (Zsv (nums:=nums) (cut:=cut0) G b2 b3 b4 (by rfl) (by assumption) λcut=>?_);refine Zac (Zsu (way:=way) (by assumption) λaj=>?_);have R:Rdy hp2 L nA nums cut way aj (upd (upd (upd m1 (S "numbers") (.ref nA)) (S "cut") (.int cut)) (S "popular") (.bool aj)):=⟨b2,b3,b4,by rfl,by rfl,by assumption,by rfl⟩;show EXs _ _ _ _ _ _ (upd (upd (upd m1 (S "numbers") (.ref nA)) (S "cut") (.int cut)) (S "popular") (.bool aj)) _ _;generalize upd (upd (upd m1 (S "numbers") (.ref nA)) (S "cut") (.int cut)) (S "popular") (.bool aj)=m2 at R ⊢;refine Zac (Zst hh λm3 hp3 aA bA c1 c2 c3 c4 c5 c6 c7 l3 d1 d2 d3=>?_);have R3:Rdy hp3 L nA nums cut way aj m3:=⟨l3 _ _ R.n,R.nL,R.len,by rw[d3 _ (by decide)];exact R.g1,by rw[d3 _ (by decide)];exact R.g2,by rw[d3 _ (by decide)];exact R.g3,by rw[d3 _ (by decide)];exact R.g4⟩;refine Zac (Zss G hh R3 ⟨c1,c2,.nil,.nil⟩ c3 c4 c5 (Hp.ne_of R.n c6) (Hp.ne_of R.n c7) d1 d2 λm4 hp4 as bs R4 F4 e1 e2=>?_);refine Zol G hh hroom R4 F4 c3 c4 c5 e1 e2 λm5 hp5 x dx whole R5 U5 N5=>?_;refine Zac (Zsr G hh hu hroom R5 U5 N5 λm6 hp6=>?_);exact Zac (Zbo (Zpj rfl))
end
set_option maxHeartbeats 8000000
theorem holds:PySem.Challenge.rw_dm0058_01.Holds:=by
 refine Zuj λs mean mg mb l vs ns T X hg hl hI hlen=>?_;have G:Gnd (KW W0) s:=⟨X,⟨mg,mb,T.g,T.b,T.builtins⟩,T.nolimit⟩;refine Zkn (us:=[(S "script",.ref l)]) (bs:=[(S "script",.ref l)]) (body:=Za7 (topS PW 8)) G hg (kLaw W0) (by kernel_rfl) rfl (by decide) rfl rfl rfl (VRs.one VR_ref) (λL x hx=>?_) (λL=>?_) (λL n c hm=>?_)
 .simp only [List.mem_cons,List.not_mem_nil,or_false]at hx;subst hx;exact .inl rfl
 .rw [show cellsFrom (L + 1) fdLaw.scope.names []=[] from rfl];generalize putCells (λ_=>none) _ _=hp1;have g0:Zff (callEnvC fdLaw L 258).kindOf [(S "script",AV.ref l)] (λ_=>none) (S "script")=some (.ref l):=rfl;have h2:Lst s hp1 L l (ns.map .int):=.inr ⟨vs.toArray,hl,Zh7 hI⟩;have key:=@Zom (callerA.deeper (callEnvC fdLaw L 258)) s _ hp1 L l ns G rfl (show 4 + 3 + 90 < 9900 from by decide) (show 301 + 1 + 40 < 1000 from by decide) hlen h2 g0;exact key
 .rw [show cellsFrom (L + 1) fdLaw.scope.names []=[] from rfl]at hm;cases hm
end Mine
theorem PySem.Challenge.cw_dm0058_01_holds : PySem.Challenge.rw_dm0058_01.Holds :=
  Mine.holds

