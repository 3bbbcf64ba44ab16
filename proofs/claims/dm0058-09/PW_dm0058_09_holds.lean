import PyProof.Rows.All
import Wide.All
import OpenK.AllK
import Wide.FinOn
import PySem.Challenge.RW_dm0058_09
set_option Elab.async false
set_option linter.all false
set_option genSizeOf false set_option genInjectivity false set_option compiler.extract_closed false
namespace Mine
theorem aR (h:True:=by rfl):True:=h
def rB:=aR._auto_1
theorem hide {T:Prop} (h:∀ G:Prop,(T->G)->G):T:=h T id
/-! arithmetic,proved once -/
theorem Zb4 {n i:Nat} (h:i < n):n - (i + 1) < n - i:=Nat.sub_succ_lt_self n i h
theorem Zqn {i:Int} (h : 0<=i):((i.toNat:Nat):Int)=i:=Int.toNat_of_nonneg h
theorem Zgh {i:Int}{n:Nat} (h0 : 0<=i) (h:i < n):i.toNat < n:=by omega
theorem Ziy {x y:Int} (h:y < x):(x - 1 - y).toNat < (x - y).toNat:=by omega
theorem rk (r k:Int):r - k + 1 + k - 1=r:=by omega
theorem ul {a b c d:Nat} (h:a + b < c) (k:d<=b):a + d < c:=Nat.lt_of_le_of_lt (Nat.add_le_add_left k a) h
theorem ul0 {a b c:Nat} (h:a + b < c):a < c:=Nat.lt_of_le_of_lt (Nat.le_add_right a b) h
noncomputable abbrev FE:=Lean.Grind.Linarith.Expr
noncomputable abbrev FkL:=Nat->Nat->Int
noncomputable abbrev FK:=(Nat->FkL × Nat)->Nat->Option Nat
noncomputable abbrev fR {β:Type} (o : β) (v:Nat->β) (p:FE->FE->β->β->β) (m:FE->FE->β->β->β) (q:FE->β->β) (u:Nat->FE->β->β) (i:Int->FE->β->β):FE->β:=Lean.Grind.Linarith.Expr.rec (motive:=λ_=>β) o v p m q u i
noncomputable abbrev fr {α β:Type} (o : β) (u : α->β->β):List α->β:=List.rec (motive:=λ_=>β) o λx _=>u x
noncomputable abbrev fnth {α:Type} (x0 : α):List α->Nat->α:=fr (λ_=>x0) λx ih=>Nat.rec x (λj _=>ih j)
noncomputable abbrev fN (c:List Nat):FE->Nat:=fR 1 (fnth 0 c) (λ_ _ x y=>x + y) (λ_ _ _ _=>0) (λ_ _=>0) (λk _ x=>k * x) (λk _ _=>k.toNat)
noncomputable abbrev fZ (c:List Nat) (d:List Int):FE->Int:=fR 1 (fnth 0 d) (λ_ _ x y=>x + y) (λ_ _ x y=>x - y) (λt _=>(fN c t:Int)) (λk _ x=>(k:Int) * x) (λk _ _=>k)
noncomputable abbrev fl {β:Type} (K:FE->FE->β) (o : β):FE->β:=fR o (λ_=>o) (λx y _ _=>K x y) (λ_ _ _ _=>o) (λ_ _=>o) (λ_ _ _=>o) (λ_ _ _=>o)
noncomputable abbrev f3 {β:Type} (x y z : β):Nat->β:=Nat.rec x (λk _=>Nat.rec y (λ_ _=>z) k)
noncomputable abbrev fP (c:List Nat) (d:List Int):FE->Prop:=fR False (λ_=>True) (λ_ _ x y=>x->y) (λ_ _ x y=>x\/y) (λ_ x=>¬ x)
 (λk t _=>fl (λs t=>f3 (fN c s < fN c t) (fN c s<=fN c t) (fN c s=fN c t) k) True t)
 (λk t _=>fl (λs t=>f3 (fZ c d s < fZ c d t) (fZ c d s<=fZ c d t) (fZ c d s=fZ c d t) k.toNat) True t)
/-! linear forms: 0 0 the constant,1 i and 2 i the atoms -/
noncomputable def fax (k:Int) (f h:FkL):FkL:=λa j=>k * f a j + h a j
noncomputable def fdl (a i:Nat):FkL:=λb j=>cond (and (Nat.beq b a) (Nat.beq j i)) 1 0
noncomputable def fO:FkL:=λ_ _=>0
noncomputable def fD {α:Type} (g : α->Int):List α->(Nat->Int)->Int:=fr (λ_=>0) λx ih f=>f 0 * g x + ih (λj=>f (j + 1))
noncomputable def fok {α:Type} (p:Int->Bool):List α->(Nat->Int)->Bool:=fr (λ_=>true) λ_ ih f=>and (p (f 0)) (ih λj=>f (j + 1))
noncomputable def fcN:FE->FkL:=fR (fdl 0 0) (fdl 1) (λ_ _ x y=>fax 1 x y) (λ_ _ _ _=>fO) (λ_ _=>fO) (λk _ x=>fax k x fO) (λk _ _=>fax k.toNat (fdl 0 0) fO)
noncomputable def fcZ:FE->FkL:=fR (fdl 0 0) (fdl 2) (λ_ _ x y=>fax 1 x y) (λ_ _ x y=>fax (-1) y x) (λt _=>fcN t) (λk _ x=>fax k x fO) (λk _ _=>fax k (fdl 0 0) fO)
noncomputable def fW (c:List Nat) (d:List Int) (f:FkL):Int:=f 0 0 + (fD Int.ofNat c (f 1) + fD id d (f 2))
noncomputable def fadd (K:FK) (L:FkL):FK:=λA=>K λr=>(fax (((A r).2 % 16:Nat):Int) L (A r).1,(A r).2 / 16)
noncomputable def fbr (K H:FK):FK:=λA r=>(K A r).bind (H A)
noncomputable def fng (L:FkL):FkL:=fax (-1) L fO
noncomputable def fm1 (L:FkL):FkL:=fax (-1) (fdl 0 0) L
noncomputable def fat (k:Nat) (L:FkL) (s:Bool) (K:FK):FK:=cond s (f3 (fadd K (fm1 L)) (fadd K L) (fadd (fadd K (fng L)) L) k) (f3 (fadd K (fng L)) (fadd K (fm1 (fng L))) (fbr (fadd K (fm1 L)) (fadd K (fm1 (fng L)))) k)
noncomputable def fk1 (s:Bool) (K:FK):FK:=cond s K (λ_ _=>none)
noncomputable def fT:FE->Bool->FK->FK:=fR (λs K=>cond s (λ_ _=>none) K) (λ_=>fk1)
 (λ_ _ x y s K=>cond s (fbr (x false K) (y true K)) (x true (y false K)))
 (λ_ _ x y s K=>cond s (fbr (x true K) (y true K)) (x false (y false K)))
 (λ_ x s K=>x (not s) K)
 (λk t _=>fl (λs t=>fat k (fax (-1) (fcN s) (fcN t))) fk1 t)
 (λk t _=>fl (λs t=>fat k.toNat (fax (-1) (fcZ s) (fcZ t))) fk1 t)
noncomputable def fend (c:List Nat) (d:List Int):FK:=λA r=>cond (and (Int.decLt ((A r).1 0 0) 0).decide (and (fok (λk=>(Int.decLe k 0).decide) c ((A r).1 1)) (fok (λk=>(Int.decEq k 0).decide) d ((A r).1 2)))) (some (A r).2) none
theorem fac (a b c d:Int):(a + b) + (c + d)=(a + c) + (b + d):=by rw[Int.add_assoc,Int.add_left_comm b,<-Int.add_assoc]
theorem fr1 (k a b c d e f:Int):(k * a + b) + ((k * c + d) + (k * e + f))=k * (a + (c + e)) + (b + (d + f)):=by rw[Int.mul_add,Int.mul_add,fac (k * c),fac]
theorem fr2 (k a b c d e:Int):(k * a + b) * c + (k * d + e)=k * (a * c + d) + (b * c + e):=by rw[Int.add_mul,Int.mul_add,Int.mul_assoc,fac]
theorem Zpw {α:Type} (g : α->Int) (k:Int):∀ (xs:List α) f h,fD g xs (λj=>k * f j + h j)=k * fD g xs f + fD g xs h:=
 List.rec (λ_ _=>(congrArg (· + 0) (Int.mul_zero k)).symm) λx _ ih f h=>(congrArg ((k * f 0 + h 0) * g x + ·) (ih (λj=>f (j + 1)) λj=>h (j + 1))).trans (fr2 ..)
theorem fD_O {α:Type} (g : α->Int):∀ xs:List α,fD g xs (λ_=>0)=0:=List.rec rfl λ_ _ ih=>(congrArg (_ + ·) ih).trans (congrArg (· + 0) (Int.zero_mul _))
theorem Zn4 {α:Type}{g : α->Int} {x0 : α} (h:g x0=0):∀ (xs:List α) i,fD g xs (λj=>cond (Nat.beq j i) 1 0)=g (fnth x0 xs i):=
 List.rec (λ_=>h.symm) λx xs ih=>Nat.rec ((congrArg (1 * g x + ·) (fD_O g xs)).trans ((Int.add_zero _).trans (Int.one_mul _))) λi _=>(congrArg (· + _) (Int.zero_mul _)).trans ((Int.zero_add _).trans (ih i))
section
variable {c:List Nat}{d:List Int}
theorem Zdk {k:Int}{f h:FkL}{x y:Int} (e:fW c d f=x) (e':fW c d h=y):fW c d (fax k f h)=k * x + y:=
 e ▸ e' ▸ (congrArg (k * f 0 0 + h 0 0 + ·) (congr (congrArg HAdd.hAdd (Zpw ..)) (Zpw ..))).trans (fr1 ..)
theorem Zc6 {f h:FkL}{x y:Int} (e:fW c d f=x) (e':fW c d h=y):fW c d (fax (-1) f h)=y - x:=(Zdk e e').trans ((Int.add_comm ..).trans (congrArg (y + ·) (Int.neg_one_mul x)))
theorem fW_0 {f:FkL}{x y z:Int} (e:f 0 0=x) (e1:fD Int.ofNat c (f 1)=y) (e2:fD id d (f 2)=z):fW c d f=x + (y + z):=by subst e e1 e2;rfl
theorem fW_O:fW c d fO=0:=(fW_0 (f:=fO) rfl (fD_O ..) (fD_O ..)).trans rfl
theorem fW_1:fW c d (fdl 0 0)=1:=(fW_0 (f:=fdl 0 0) rfl (fD_O ..) (fD_O ..)).trans rfl
theorem fW_k (k:Int):fW c d (fax k (fdl 0 0) fO)=k:=(Zdk fW_1 fW_O).trans ((Int.add_zero _).trans (Int.mul_one _))
theorem Zco:∀ t,fW c d (fcN t)=fN c t:=Lean.Grind.Linarith.Expr.rec fW_1
 (λi=>(fW_0 (f:=fdl 1 i) rfl (Zn4 (x0:=0) rfl ..) (fD_O ..)).trans ((Int.zero_add _).trans (Int.add_zero _)))
 (λ_ _ x y=>(Zdk x y).trans (congrArg (· + _) (Int.one_mul _))) (λ_ _ _ _=>fW_O) (λ_ _=>fW_O)
 (λ_ _ x=>(Zdk x fW_O).trans (Int.add_zero _)) (λk _ _=>fW_k k.toNat)
theorem Zjx:∀ t,fW c d (fcZ t)=fZ c d t:=Lean.Grind.Linarith.Expr.rec fW_1
 (λi=>(fW_0 (f:=fdl 2 i) rfl (fD_O ..) (Zn4 (x0:=0) rfl ..)).trans ((Int.zero_add _).trans (Int.zero_add _)))
 (λ_ _ x y=>(Zdk x y).trans (congrArg (· + _) (Int.one_mul _))) (λ_ _ x y=>Zc6 y x) (λt _=>Zco t)
 (λ_ _ x=>(Zdk x fW_O).trans (Int.add_zero _)) (λk _ _=>fW_k k)
noncomputable abbrev fS (c:List Nat) (d:List Int) (K:FK):Prop:=∀ A r,(∀ r,0<=fW c d (A r).1)->K A r=none
theorem Za1 {K:FK}{L:FkL} (h : 0<=fW c d L) (k:fS c d K):fS c d (fadd K L):=λ_ _ a=>k _ _ λr=>(Zdk rfl rfl).symm ▸ Int.add_nonneg (Int.mul_nonneg (Int.natCast_nonneg _) h) (a r)
theorem Zl2 {K H:FK} (k:fS c d K):fS c d (fbr K H):=λA r a=>congrArg (Option.bind · (H A)) (k A r a)
theorem Zl1 {K H:FK} (k:fS c d H):fS c d (fbr K H):=λA r a=>Option.rec (motive:=λx=>x.bind (H A)=none) rfl (λr=>k A r a) (K A r)
noncomputable abbrev fB (c:List Nat) (d:List Int) (p:Prop) (T:Bool->FK->FK):Prop:=∀ K,fS c d K->(p->fS c d (T true K))/\(¬ p->fS c d (T false K))
theorem fle {L:FkL}{x y:Int} (e:fW c d L=y - x) (h:x<=y) : 0<=fW c d L:=e ▸ Int.sub_nonneg_of_le h
theorem flt {L:FkL}{x y:Int} (e:fW c d L=y - x) (h:x < y) : 0<=fW c d (fm1 L):=(Zdk fW_1 e).symm ▸ (Int.add_comm (y - x) (-1) ▸ Int.le_sub_one_of_lt (Int.sub_pos_of_lt h))
theorem Zm3 {L:FkL}{x y:Int} (e:fW c d L=y - x) (n:Nat):fB c d (f3 (x < y) (x<=y) (x=y) n) (fat n L):=λK k=>by have e2:fW c d (fng L)=x - y:=(Zdk e fW_O).trans ((Int.add_zero _).trans ((Int.neg_one_mul _).trans (Int.neg_sub ..)));exact n.rec ⟨λh=>Za1 (flt e h) k,λh=>Za1 (fle e2 (Int.not_lt.mp h)) k⟩ λn _=>n.rec ⟨λh=>Za1 (fle e h) k,λh=>Za1 (flt e2 (Int.not_le.mp h)) k⟩ λ_ _=>⟨λh=>Za1 (fle e (Int.le_of_eq h)) (Za1 (fle e2 (Int.le_of_eq h.symm)) k),λh=>(Int.lt_or_gt_of_ne h).elim (λh=>Zl2 (Za1 (flt e h) k)) λh=>Zl1 (Za1 (flt e2 h) k)⟩
theorem Zpt {P:FE->FE->Prop}{p:FE->FE->Bool->FK->FK} (h:∀ s t,fB c d (P s t) (p s t)):∀ t,fB c d (fl P True t) (fl p fk1 t):=
 have h0:fB c d True fk1:=λ_ k=>⟨λ_=>k,λh=>absurd trivial h⟩
 Lean.Grind.Linarith.Expr.rec h0 (λ_=>h0) (λs t _ _=>h s t) (λ_ _ _ _=>h0) (λ_ _=>h0) (λ_ _ _=>h0) (λ_ _ _=>h0)
theorem fNZ {a b:Nat} (n:Nat):f3 ((a:Int) < b) ((a:Int)<=b) ((a:Int)=b) n=f3 (a < b) (a<=b) (a=b) n:=n.rec (propext Int.ofNat_lt) λn _=>n.rec (propext Int.ofNat_le) λ_ _=>propext Int.ofNat_inj
theorem Zrg:∀ t,fB c d (fP c d t) (fT t):=Lean.Grind.Linarith.Expr.rec
 (λ_ k=>⟨λh=>h.elim,λ_=>k⟩) (λ_ _ k=>⟨λ_=>k,λh=>absurd trivial h⟩)
 (λ_ _ x y K k=>⟨λh=>(Classical.em _).elim (λg=>Zl1 ((y K k).1 (h g))) λg=>Zl2 ((x K k).2 g),λh=>(x _ ((y K k).2 λg=>h λ_=>g)).1 (Classical.byContradiction λg=>h λi=>absurd i g)⟩)
 (λ_ _ x y K k=>⟨λh=>h.elim (λg=>Zl2 ((x K k).1 g)) λg=>Zl1 ((y K k).1 g),λh=>(x _ ((y K k).2 λg=>h (.inr g))).2 λg=>h (.inl g)⟩)
 (λ_ x K k=>⟨λh=>(x K k).2 h,λh=>(x K k).1 (Classical.not_not.mp h)⟩)
 (λk t _=>Zpt (λs t=>fNZ k ▸ Zm3 ((Zc6 (Zco s) (Zco t))) k) t)
 (λk t _=>Zpt (λs t=>Zm3 (Zc6 (Zjx s) (Zjx t)) k.toNat) t)
theorem fand {a b:Bool} (h:and a b=true):a=true/\b=true:=Eq.mp (Bool.and_eq_true a b) h
theorem Zm0 {α:Type}{g : α->Int}{p:Int->Bool} (h:∀ k x,p k=true->k * g x<=0):∀ (xs:List α) f,fok p xs f=true->fD g xs f<=0:=
 List.rec (λ_ _=>Int.le_refl _) λx _ ih f e=>Int.add_nonpos (h (f 0) x (fand e).1) (ih _ (fand e).2)
theorem Zrf {r:Nat}:∀ b:Bool,(b=true->False)->cond b (some r) none=none:=Bool.rec (λ_=>rfl) λh=>(h rfl).elim
theorem Zn2:fS c d (fend c d):=λ_ r a=>Zrf _ λe=>Int.not_le.mpr (Int.add_neg_of_neg_of_nonpos (of_decide_eq_true (fand e).1) (Int.add_nonpos
 (Zm0 (λ_ x h=>Int.mul_nonpos_of_nonpos_of_nonneg (of_decide_eq_true h) (Int.natCast_nonneg x)) c _ (fand (fand e).2).1) (Zm0 (λ_ x h=>Int.le_of_eq ((congrArg (· * x) (of_decide_eq_true h)).trans (Int.zero_mul x))) d _ (fand (fand e).2).2))) (a r)
/-! atoms that are made of others: a - b (not split: add;split: sub),(x).toNat (neg),a / k (natMul) -/
noncomputable abbrev fv (c:List Nat) (d:List Int):FE->Nat:=fR 0 (λ_=>0) (λa b _ _=>fN c a - fN c b) (λa b _ _=>fN c a - fN c b) (λa _=>(fZ c d a).toNat) (λk a _=>fN c a / k) (λ_ _ _=>0)
noncomputable def fsh (f:FkL):FkL:=λa=>cond (Nat.beq a 1) (Nat.rec 0 λj _=>f 1 j) (f a)
noncomputable def ftn (x:FkL) (K:FK):FK:=fbr (fadd (fadd K (fax (-1) (fdl 1 0) x)) (fax (-1) x (fdl 1 0))) (fadd (fadd K (fng x)) (fng (fdl 1 0)))
noncomputable def fdef:FE->FK->FK:=fR (λK=>K) (λ_ K=>K)
 (λa b _ _ K=>fadd (fadd K (fax (-1) (fdl 1 0) (fsh (fcN a)))) (fax (-1) (fsh (fax (-1) (fcN b) (fcN a))) (fdl 1 0)))
 (λa b _ _=>ftn (fsh (fax (-1) (fcN b) (fcN a)))) (λa _=>ftn (fsh (fcZ a)))
 (λk a _ K=>fadd (fadd K (fax (-1) (fax k (fdl 1 0) fO) (fsh (fcN a)))) (fax k (fax (-1) (fsh (fcN a)) (fax k (fdl 1 0) (fax (k - 1) (fdl 0 0) fO))) fO)) (λ_ _ _ K=>K)
noncomputable abbrev fE (d:List Int):List FE->List Nat->List Nat:=fr (λc=>c) λD ih c=>ih (fv c d D :: c)
noncomputable def frun (d:List Int) (F:FE):List FE->List Nat->FK:=fr (λc=>fT F false (fend c d)) λD ih c A=>fdef D (ih (fv c d D :: c)) λr=>(fsh (A r).1,(A r).2)
theorem fsh_ok {z:Nat}{f:FkL}:fW (z :: c) d (fsh f)=fW c d f:=congrArg (λx=>f 0 0 + (x + fD id d (f 2))) ((congrArg (· + _) (Int.zero_mul _)).trans (Int.zero_add _))
theorem fW_z {z:Nat}:fW (z :: c) d (fdl 1 0)=z:=(fW_0 (f:=fdl 1 0) rfl (Zn4 (x0:=0) rfl ..) (fD_O ..)).trans ((Int.zero_add _).trans (Int.add_zero _))
theorem Zmz {L:FkL}{K:FK}{x:Int}{z:Nat} (e:fW (z :: c) d L=x) (h:x.toNat=z) (k:fS (z :: c) d K):fS (z :: c) d (ftn L K):=by subst h;have e2:fW (x.toNat :: c) d (fng L)=0 - x:=Zc6 e fW_O;exact (Int.le_total 0 x).elim (λh=>Zl2 (Za1 (fle (Zc6 e fW_z) (Int.self_le_toNat x)) (Za1 (fle (Zc6 fW_z e) (Int.le_of_eq (Int.toNat_of_nonneg h))) k))) λh=>Zl1 (Za1 (fle (Zc6 fW_z fW_O) (Int.le_of_eq (congrArg Nat.cast (Int.toNat_of_nonpos h)))) (Za1 (fle e2 h) k))
theorem fdv {L:FkL}{a n:Nat} (e:fW c d L=n * (n * (a / n:Nat) + (n - 1) - a) + 0) : 0<=fW c d L:=e ▸ by
 cases n with
 | zero=>exact Int.le_of_eq (congrArg (· + 0) (Int.zero_mul _)).symm
 | succ n=>
  have h:(a:Int) < ((n + 1:Nat):Int) * ((a / (n + 1):Nat):Int) + ((n + 1:Nat):Int):=Int.ofNat_lt.mpr (Nat.lt_mul_div_succ a n.succ_pos);refine Int.add_nonneg (Int.mul_nonneg (Int.natCast_nonneg _) (Int.sub_nonneg_of_le (Int.add_sub_assoc .. ▸ Int.le_sub_one_of_lt h))) (Int.le_refl 0)
theorem Zn3 (D:FE) (K:FK) (k:fS (fv c d D :: c) d K):fS (fv c d D :: c) d (fdef D K):=by revert k;exact Lean.Grind.Linarith.Expr.casesOn (motive:=λD=>fS (fv c d D :: c) d K->fS (fv c d D :: c) d (fdef D K)) D id (λ_=>id) (λa b k=>Za1 (fle (Zc6 (fsh_ok.trans (Zc6 (Zco b) (Zco a))) fW_z) (Int.toNat_sub (fN c a) (fN c b) ▸ Int.self_le_toNat _)) (Za1 (fle (Zc6 fW_z (fsh_ok.trans (Zco a))) (Int.ofNat_le.mpr (Nat.sub_le ..))) k)) (λa b=>Zmz (fsh_ok.trans (Zc6 (Zco b) (Zco a))) (Int.toNat_sub ..)) (λa=>Zmz (fsh_ok.trans (Zjx a)) rfl) (λn a k=>Za1 (fdv (Zdk (Zc6 (fsh_ok.trans (Zco a)) (Zdk fW_z (fW_k _))) fW_O)) (Za1 (fle (Zc6 (Zdk fW_z fW_O) (fsh_ok.trans (Zco a))) (Int.ofNat_le.mpr (Nat.mul_div_le ..))) k)) (λ_ _=>id)
theorem Zn0 {F:FE}:∀ (Ds:List FE) (c:List Nat),¬ fP (fE d Ds c) d F->fS c d (frun d F Ds c):=
 List.rec (λ_ g=>(Zrg F _ Zn2).2 g) λD _ ih c g A r a=>Zn3 D _ (ih _ g) _ r λr=>fsh_ok.symm ▸ a r
end
noncomputable abbrev fpT {β:Type} (z : β):Nat->Nat->(FE->Nat->β)->β:=Nat.rec (λ_ _=>z) λ_ ih n k=>
 fnth (k (.var (n % 16 - 7)) (n / 16)) [ih (n / 16) λs n=>ih n λt n=>k (.add s t) n,ih (n / 16) λs n=>ih n λt n=>k (.sub s t) n,
  ih (n / 256) λt m=>k (.natMul (n / 16 % 16) t) m,ih (n / 16) λt n=>k (.neg t) n,k (.intMul (n / 16 % 16:Nat) .zero) (n / 256),k (.intMul (n / 16 % 256:Nat) .zero) (n / 4096),k .zero (n / 16)] (n % 16)
noncomputable abbrev fpF:Nat->Nat->(FE->Nat->FE)->FE:=Nat.rec (λ_ _=>.zero) λ_ ih n k=>
 have at2 (f:FE->FE):FE:=fpT .zero 64 (n / 16) λs m=>fpT .zero 64 m λt m=>k (f (.add s t)) m
 fnth (at2 (.intMul (n % 16 - 7:Nat))) [ih (n / 16) λs n=>ih n λt n=>k (.add s t) n,ih (n / 16) λs n=>ih n λt n=>k (.sub s t) n,ih (n / 16) λt n=>k (.neg t) n,k .zero (n / 16),at2 (.natMul 0),at2 (.natMul 1),at2 (.natMul 2)] (n % 16)
noncomputable abbrev fp:Nat->Nat->List FE × FE:=Nat.rec (λ_=>([],.zero)) λ_ ih n=>
 cond (Nat.beq (n % 16) 10) (fpT ([],.zero) 64 (n / 16) λD m=>(D :: (ih m).1,(ih m).2)) ([],fpF 64 n λt _=>t)
theorem fk (c:List Nat) (d:List Int) (n r:Nat) (h:(frun d (fp 64 n).2 (fp 64 n).1 c (λr=>(fO,r)) r).isSome=true):fP (fE d (fp 64 n).1 c) d (fp 64 n).2:=
 Classical.byContradiction λg=>nomatch (congrArg Option.isSome (Zn0 (fp 64 n).1 c g (λr=>(fO,r)) r λ_=>Int.le_of_eq fW_O.symm)).symm.trans h
section
variable {a b c d:Nat}{x y z u v:Int}
noncomputable abbrev F20:=fk [a,b] []
noncomputable abbrev F30:=fk [a,b,c] []
noncomputable abbrev F10:=fk [a] []
noncomputable abbrev F02:=fk [] [x,y]
noncomputable abbrev F03:=fk [] [x,y,z]
noncomputable abbrev F01:=fk [] [x]
noncomputable abbrev F11:=fk [a] [x]
noncomputable abbrev F00:=fk [] []
noncomputable abbrev F04:=fk [] [x,y,z,u]
noncomputable abbrev F40:=fk [a,b,c,d] []
noncomputable abbrev F13:=fk [a] [x,y,z]
noncomputable abbrev F05:=fk [] [x,y,z,u,v]
noncomputable abbrev F12:=fk [a] [x,y]
end
open PySem PySem.W PyProof.Rows
noncomputable abbrev wB := @wpAny_bind
noncomputable abbrev wP := @wpAny_pure
set_option maxRecDepth 100000
noncomputable def anyA {α:Type} (as:Array α) (p : α->Bool) (start:Nat:=0) (stop:Nat:=as.size):Bool:=
 @Bool.rec (λ_=>Bool) (Array.any as p start stop) (PySem.W.R.anyR as.toList p) (Nat.beq start 0 && Nat.beq stop as.size)
theorem Zn9:@Array.any.{0} = @anyA:=by
 funext α as p start stop;unfold anyA;cases h:(Nat.beq start 0 && Nat.beq stop as.size) with
 | false=>rfl
 | true=>
  have h':=Bool.and_eq_true_iff.mp h;have h1:=Nat.eq_of_beq_eq_true h'.1;have h2:=Nat.eq_of_beq_eq_true h'.2;subst h1;subst h2;show as.any p=PySem.W.R.anyR as.toList p;rw[<-PySem.W.R.anyR_eq,Array.any_toList]
noncomputable abbrev AnyT:={α:Type}->Array α->(α->Bool)->(start:Nat)->(stop:Nat)->Bool
inductive TEq:Builtin->Builtin->Type
 | refl (f:Builtin):TEq f f
theorem TEq.toEq {a b:Builtin} (x:TEq a b):a=b:=by cases x;rfl
noncomputable def newPk:(G:AnyT->Builtin) × TEq PySem.W.Fast.tw4202317264376624991 (G @Array.any):=⟨_,by
 delta PySem.W.Fast.tw4202317264376624991;generalize (@Array.any:AnyT)=X
 exact TEq.refl _⟩
theorem Zlm:PySem.W.Fast.tw4202317264376624991=newPk.1 @anyA:=newPk.2.toEq.trans (congrArg newPk.1 Zn9)
noncomputable def tblA (id:String):Option Builtin:=
 @Bool.rec (λ_=>Option Builtin) (PySem.W.Fast.tw14364793385576792824 id) (some (newPk.1 @anyA)) (Nat.beq (PySem.W.Fast.tw13482112738370960269 id) (PySem.W.Fast.tw13482112738370960269 "type.__new__"))
theorem Zi0:treeTable=tblA:=by
 funext id;unfold tblA;rw[<-PySem.W.Fast.te14364793385576792824,<-PySem.W.Fast.te13482112738370960269];cases h:Nat.beq (PySem.code id) (PySem.code "type.__new__") with
 | false=>rfl
 | true=>
  have h1:=PySem.code_inj _ _ (Nat.eq_of_beq_eq_true h);subst h1;show _=some (newPk.1 @anyA);rw[<-Zlm,<-PySem.W.Fast.te4202317264376624991];kernel_rfl
noncomputable def Zeq (tb:String->Option Builtin) (p:Program) (w:World) (nZ:Nat) (ann:Option Value):Nat->SharedT->Thread->Option SharedT
 | 0,_,_=>none
 | n + 1,s,t=>match through t with
  | true=>some s
  | false=>match PySem.W.Fast.tw6613529449190102663 nZ ann t with
   | false=>none
   | true=>match PySem.W.Fast.tw10156331382660048174 (PySem.W.Fast.tw11892475500146522536 tb) p w s t with
    | some (s',t')=>Zeq tb p w nZ ann n s' t'
    | none=>none
noncomputable def Zp3 (P:Params):BT:=
 .node (boot_o_0 P) (.node (boot_o_1 P) (.node (boot_o_3 P) (.node (boot_o_7 P) .nil .nil) .nil) (.node (boot_o_5 P) (.node (boot_o_9 P) .nil .nil) .nil))
  (.node (boot_o_2 P) (.node (boot_o_4 P) (.node (boot_o_8 P) .nil .nil) .nil) (.node (boot_o_6 P) (.node (boot_o_10 P) .nil .nil) .nil))
theorem Zl5 (P:Params):absHeap (Zp3 P) 11 (boot_heap P).life=boot_heap P:=rfl
noncomputable def S0 (w:World) (os:OsState):SharedT:=⟨Zp3 w.params,11,(boot_heap w.params).life,#[],boot_drawn,boot_toks,os⟩

noncomputable def docX (c:Stmt):Str:=match c with
 | .ClassDef _ _ _ (.Expr (.Constant (.str d) _ _) _ :: _) _ _ _ _ _ _ _=>d
 | _=>default
noncomputable def Zqs (d:Str) (c:Stmt):Stmt:=match c with
 | .ClassDef a1 a2 a3 (.Expr (.Constant (.str _) a4 a5) a6 :: r) b1 b2 b3 b4 b5 b6 b7=>.ClassDef a1 a2 a3 (.Expr (.Constant (.str d) a4 a5) a6 :: r) b1 b2 b3 b4 b5 b6 b7
 | c=>c
noncomputable def Zqr (p:Program) (d:Str):Program:={ p with main:={ p.main with body:=p.main.body.set 5 (Zqs d (p.main.body.getD 5 (.Pass default))) } }
noncomputable def docE:(cs:List Char) ×' (docX (PySem.Challenge.pw_dm0058_09.main.body.getD 5 (.Pass default))=PySem.Str.ofString (String.ofList cs)):=⟨_,rfl⟩
noncomputable def pT:Program:=Zqr PySem.Challenge.pw_dm0058_09 ⟨(docE.1.map Char.toNat).toArray⟩
theorem Zlg:PySem.Challenge.pw_dm0058_09=pT:=by unfold pT;rw[<-PySem.W.Fast.ofString_ofList,<-docE.2];kernel_rfl
noncomputable def theRun (w:World) (os:OsState):Option SharedT:=Zeq tblA pT w 11 (some (.ref 6)) 2300 (S0 w os) (topStub pT)
theorem Zh0 {p:Program}{w:World} {nZ:Nat}{ann:Option Value}:∀ {n:Nat}{s s':SharedT}{t:Thread},Zeq tblA p w nZ ann n s t=some s'->topRun treeTable p w nZ ann n s.abs t=some s'.abs:=by
 intro r_
 induction r_ with
 | zero=>
  intro _ _ _ h;cases h
 | succ n ih=>
  intro s s' t h;unfold Zeq at h;unfold topRun;cases he:through t with
  | true=>rw[he]at h;cases h;rfl
  | false=>
   rw[he]at h;rw[<-PySem.W.Fast.te6613529449190102663]at h;cases hk:stepOk nZ ann t with
   | false=>rw[hk]at h;cases h
   | true=>
    rw[hk]at h;rw[<-PySem.W.Fast.te10156331382660048174,<-PySem.W.Fast.te11892475500146522536,<-Zi0]at h;cases hs:stepT (denote treeTable) p w s t with
    | none=>rw[hs]at h;cases h
    | some r=>obtain ⟨s₂,t₂⟩:=r;rw[hs]at h;dsimp only;rw[stepT_spec hs];rw[Zi0]at h;exact ih h
noncomputable def qV:Program:=view PySem.Challenge.pw_dm0058_09 [0,2,3,4,5,7,8,9,10]
noncomputable def Zbv:List PySem.Str:=[PySem.Str.ofString "_tuplegetter",PySem.Str.ofString "Match",PySem.Str.ofString "SequenceMatcher"]


noncomputable abbrev S (x:String):PySem.Str:=PySem.Str.ofString x
noncomputable def topS (p:Program) (i:Nat):Stmt:=p.main.body.getD i (.Pass default)
noncomputable def inS (c:Stmt) (i:Nat):Stmt:=match c with
 | .ClassDef _ _ _ b _ _ _ _ _ _ _=>b.getD i (.Pass default)
 | _=>.Pass default
noncomputable def Zn6:Stmt->Arguments
 | .FunctionDef _ a _ _ _ _ _ _ _ _=>a
 | _=>default
noncomputable def Zbg:Stmt->List Stmt
 | .FunctionDef _ _ b _ _ _ _ _ _ _=>b
 | .ClassDef _ _ _ b _ _ _ _ _ _ _=>b
 | _=>[]
noncomputable def Zpz:Stmt->Scope
 | .FunctionDef _ _ _ _ _ _ sc _ _ _=>sc
 | _=>default
noncomputable def Zri:Stmt->PySem.Str
 | .FunctionDef n _ _ _ _ _ _ _ _ _=>n
 | _=>S ""
noncomputable def docS (d:Stmt):PySem.Str:=match PySem.docOf (Zbg d) with | some s=>s | none=>S ""
noncomputable def docV (t:Nat) (b:List Stmt):Value:=match PySem.docOf b with | some s=>.str s t | none=>.none
noncomputable def fnD (d:Stmt) (qual:PySem.Str) (dV kV:Value) (dt:Nat) (pm:Value) (an:Option Addr) (cd ct:Value) (cl:List (PySem.Str × Addr)):FuncData:=
 { name:=Zri d,qualname:=qual,params:=Zn6 d,body:=.stmts (Zbg d),scope:=Zpz d,globals:=3,closure:=cl,defaults:=dV,kwdefaults:=kV,doc:=docV dt (Zbg d),pyModule:=pm,annotations:=an,code:=cd,closureTuple:=ct,builtins:=0 }
noncomputable def KP0 (p:Program) (P:Params):Frag:=[(1,⟨(.type "dict"),none,(.dict #[⟨(PyData.keyHash P (S "builtins")),(.str (S "builtins") 162),(.ref 4)⟩,⟨(PyData.keyHash P (S "__main__")),(.str (S "__main__") 163),(.ref 5)⟩] 2),#[]⟩),
 (2,⟨.none,none,(.dict #[] 0),#[]⟩),
 (3,⟨(.type "dict"),none,(.dict #[⟨(PyData.keyHash P (S "__name__")),(.str (S "__name__") 165),(.str (S "law_dm0058_09") 575)⟩,⟨(PyData.keyHash P (S "__doc__")),(.str (S "__doc__") 166),.none⟩,⟨(PyData.keyHash P (S "__package__")),(.str (S "__package__") 167),.none⟩,⟨(PyData.keyHash P (S "__loader__")),(.str (S "__loader__") 168),(.builtin "__main__.__loader__#opaque")⟩,⟨(PyData.keyHash P (S "__spec__")),(.str (S "__spec__") 169),.none⟩,⟨(PyData.keyHash P (S "__annotations__")),(.str (S "__annotations__") 170),(.ref 6)⟩,⟨(PyData.keyHash P (S "__builtins__")),(.str (S "__builtins__") 171),(.ref 4)⟩,⟨(PyData.keyHash P (S "__file__")),(.str (S "__file__") 173),(.str (S "/claim/cut.py") 172)⟩,⟨(PyData.keyHash P (S "__cached__")),(.str (S "__cached__") 174),.none⟩,⟨(PyData.keyHash P (S "_wall")),(.str (S "_wall") 193),(.ref 21)⟩,⟨(PyData.keyHash P (S "_tuplegetter")),(.str (S "_tuplegetter") 252),(.ref 60)⟩,⟨(PyData.keyHash P (S "Match")),(.str (S "Match") 380),(.ref 135)⟩,⟨(PyData.keyHash P (S "_calculate_ratio")),(.str (S "_calculate_ratio") 388),(.ref 145)⟩,⟨(PyData.keyHash P (S "SequenceMatcher")),(.str (S "SequenceMatcher") 574),(.ref 242)⟩,⟨(PyData.keyHash P (S "_law_growth")),(.str (S "_law_growth") 587),(.ref 253)⟩,⟨(PyData.keyHash P (S "_law_due")),(.str (S "_law_due") 606),(.ref 260)⟩,⟨(PyData.keyHash P (S "_law_told")),(.str (S "_law_told") 620),(.ref 267)⟩,⟨(PyData.keyHash P (S "law")),(.str (S "law") 626),(.ref 272)⟩] 18),#[]⟩),
 (68,⟨(.type "cell"),none,(.cell (some (.ref 135))),#[]⟩),
 (75,⟨(.type "dict"),none,(.dict #[] 0),#[]⟩),
 (81,⟨(.type "code"),none,(.fields #[(.str (S "__new__") 274),(.str (S "Match.__new__") 275),(.str (S "/claim/cut.py") 276),(.int 29 0),(.int 4 0),(.int 0 0),(.int 0 0),(.int 3 0),(.ref 76),(.bool true),(.int 181 0),(.ref 77),.none,(.ref 78),(.ref 79),(.ref 80),(.int 281 0),(.int 29 0),(.str (S "/claim/cut.py") 282)]),#[]⟩),
 (82,⟨(.type "function"),none,(.func (fnD (inS (topS p 3) 4) (S "Match.__new__") .none .none 283 (.str (S "cpy313.difflib") 194) none (.ref 81) .none [])),#[]⟩),
 (90,⟨(.type "dict"),none,(.dict #[⟨(PyData.keyHash P (S "__module__")),(.str (S "__module__") 295),(.str (S "cpy313.difflib") 194)⟩,⟨(PyData.keyHash P (S "__name__")),(.str (S "__name__") 298),(.str (S "_make") 297)⟩,⟨(PyData.keyHash P (S "__qualname__")),(.str (S "__qualname__") 301),(.str (S "Match._make") 300)⟩,⟨(PyData.keyHash P (S "__doc__")),(.str (S "__doc__") 303),(.str (docS (inS (topS p 3) 5)) 293)⟩,⟨(PyData.keyHash P (S "__annotations__")),(.str (S "__annotations__") 305),(.ref 92)⟩] 5),#[]⟩),
 (91,⟨(.type "classmethod"),(some 90),(.fields #[(.ref 89),(.bool false)]),#[]⟩),
 (92,⟨(.type "dict"),none,(.dict #[] 0),#[]⟩),
 (134,⟨(.type "dict"),none,(.dict #[⟨(PyData.keyHash P (S "__module__")),(.str (S "__module__") 260),(.str (S "cpy313.difflib") 194)⟩,⟨(PyData.keyHash P (S "__firstlineno__")),(.str (S "__firstlineno__") 264),(.int 23 263)⟩,⟨(PyData.keyHash P (S "__doc__")),(.str (S "__doc__") 266),(.str (S "Match(a, b, size)") 265)⟩,⟨(PyData.keyHash P (S "__slots__")),(.str (S "__slots__") 268),(.ref 73)⟩,⟨(PyData.keyHash P (S "_fields")),(.str (S "_fields") 272),(.ref 74)⟩,⟨(PyData.keyHash P (S "_field_defaults")),(.str (S "_field_defaults") 273),(.ref 75)⟩,⟨(PyData.keyHash P (S "__new__")),(.str (S "__new__") 284),(.ref 136)⟩,⟨(PyData.keyHash P (S "_make")),(.str (S "_make") 306),(.ref 91)⟩,⟨(PyData.keyHash P (S "_replace")),(.str (S "_replace") 317),(.ref 100)⟩,⟨(PyData.keyHash P (S "__replace__")),(.str (S "__replace__") 318),(.ref 100)⟩,⟨(PyData.keyHash P (S "__repr__")),(.str (S "__repr__") 326),(.ref 107)⟩,⟨(PyData.keyHash P (S "_asdict")),(.str (S "_asdict") 333),(.ref 114)⟩,⟨(PyData.keyHash P (S "__getnewargs__")),(.str (S "__getnewargs__") 341),(.ref 121)⟩,⟨(PyData.keyHash P (S "__match_args__")),(.str (S "__match_args__") 345),(.ref 122)⟩,⟨(PyData.keyHash P (S "a")),(.str (S "a") 355),(.ref 124)⟩,⟨(PyData.keyHash P (S "b")),(.str (S "b") 365),(.ref 127)⟩,⟨(PyData.keyHash P (S "size")),(.str (S "size") 375),(.ref 130)⟩,⟨(PyData.keyHash P (S "__static_attributes__")),(.str (S "__static_attributes__") 376),(.ref 132)⟩] 2),#[]⟩),
 (135,⟨(.type "type"),none,(.cls { name:=(S "Match"),bases:=[(.type "tuple")],mro:=[(.ref 135),(.type "tuple"),(.type "object")],ns:=134,qualname:=(S "Match"),hasDict:=false,slotNames:=[],subclasses:=[],abstract:=false,collection:=none,hasDel:=false }),#[(some (.ref 65)),none,(some (.str (S "Match") 253)),(some (.str (S "Match") 261)),(some .none),(some (.bool false))]⟩),
 (136,⟨(.type "staticmethod"),none,(.fields #[(.ref 82)]),#[]⟩),
 (153,⟨(.type "tuple"),none,(.seq #[.none,(.str (S "") 404),(.str (S "") 405),(.bool true)] 0),#[]⟩),
 (159,⟨(.type "code"),none,(.fields #[(.str (S "__init__") 406),(.str (S "SequenceMatcher.__init__") 407),(.str (S "/claim/cut.py") 408),(.int 145 0),(.int 5 0),(.int 0 0),(.int 0 0),(.int 3 0),(.ref 154),(.bool true),(.int 181 0),(.ref 155),.none,(.ref 156),(.ref 157),(.ref 158),(.int 414 0),(.int 145 0),(.str (S "/claim/cut.py") 415)]),#[]⟩),
 (160,⟨(.type "function"),none,(.func (fnD (inS (topS p 5) 1) (S "SequenceMatcher.__init__") (.ref 153) .none 416 (.str (S "cpy313.difflib") 194) none (.ref 159) .none [])),#[]⟩),
 (166,⟨(.type "code"),none,(.fields #[(.str (S "set_seqs") 418),(.str (S "SequenceMatcher.set_seqs") 419),(.str (S "/claim/cut.py") 420),(.int 173 0),(.int 3 0),(.int 0 0),(.int 0 0),(.int 3 0),(.ref 161),(.bool true),(.int 181 0),(.ref 162),.none,(.ref 163),(.ref 164),(.ref 165),(.int 424 0),(.int 173 0),(.str (S "/claim/cut.py") 425)]),#[]⟩),
 (167,⟨(.type "function"),none,(.func (fnD (inS (topS p 5) 2) (S "SequenceMatcher.set_seqs") .none .none 426 (.str (S "cpy313.difflib") 194) none (.ref 166) .none [])),#[]⟩),
 (173,⟨(.type "code"),none,(.fields #[(.str (S "set_seq1") 428),(.str (S "SequenceMatcher.set_seq1") 429),(.str (S "/claim/cut.py") 430),(.int 184 0),(.int 2 0),(.int 0 0),(.int 0 0),(.int 3 0),(.ref 168),(.bool true),(.int 181 0),(.ref 169),.none,(.ref 170),(.ref 171),(.ref 172),(.int 433 0),(.int 184 0),(.str (S "/claim/cut.py") 434)]),#[]⟩),
 (174,⟨(.type "function"),none,(.func (fnD (inS (topS p 5) 3) (S "SequenceMatcher.set_seq1") .none .none 435 (.str (S "cpy313.difflib") 194) none (.ref 173) .none [])),#[]⟩),
 (180,⟨(.type "code"),none,(.fields #[(.str (S "set_seq2") 437),(.str (S "SequenceMatcher.set_seq2") 438),(.str (S "/claim/cut.py") 439),(.int 209 0),(.int 2 0),(.int 0 0),(.int 0 0),(.int 3 0),(.ref 175),(.bool true),(.int 181 0),(.ref 176),.none,(.ref 177),(.ref 178),(.ref 179),(.int 442 0),(.int 209 0),(.str (S "/claim/cut.py") 443)]),#[]⟩),
 (181,⟨(.type "function"),none,(.func (fnD (inS (topS p 5) 4) (S "SequenceMatcher.set_seq2") .none .none 444 (.str (S "cpy313.difflib") 194) none (.ref 180) .none [])),#[]⟩),
 (187,⟨(.type "code"),none,(.fields #[(.str (S "__chain_b") 446),(.str (S "SequenceMatcher.__chain_b") 447),(.str (S "/claim/cut.py") 448),(.int 236 0),(.int 1 0),(.int 0 0),(.int 0 0),(.int 3 0),(.ref 182),(.bool true),(.int 181 0),(.ref 183),.none,(.ref 184),(.ref 185),(.ref 186),(.int 461 0),(.int 236 0),(.str (S "/claim/cut.py") 462)]),#[]⟩),
 (188,⟨(.type "function"),none,(.func (fnD (inS (topS p 5) 5) (S "SequenceMatcher.__chain_b") .none .none 0 (.str (S "cpy313.difflib") 194) none (.ref 187) .none [])),#[]⟩),
 (189,⟨(.type "tuple"),none,(.seq #[(.int 0 464),.none,(.int 0 465),.none] 0),#[]⟩),
 (195,⟨(.type "code"),none,(.fields #[(.str (S "find_longest_match") 466),(.str (S "SequenceMatcher.find_longest_match") 467),(.str (S "/claim/cut.py") 468),(.int 260 0),(.int 5 0),(.int 0 0),(.int 0 0),(.int 3 0),(.ref 190),(.bool true),(.int 181 0),(.ref 191),.none,(.ref 192),(.ref 193),(.ref 194),(.int 488 0),(.int 260 0),(.str (S "/claim/cut.py") 489)]),#[]⟩),
 (196,⟨(.type "function"),none,(.func (fnD (inS (topS p 5) 6) (S "SequenceMatcher.find_longest_match") (.ref 189) .none 490 (.str (S "cpy313.difflib") 194) none (.ref 195) .none [])),#[]⟩),
 (211,⟨(.type "tuple"),none,(.seq #[(.int 3 526)] 0),#[]⟩),
 (241,⟨(.type "dict"),none,(.dict #[⟨(PyData.keyHash P (S "__module__")),(.str (S "__module__") 396),(.str (S "cpy313.difflib") 194)⟩,⟨(PyData.keyHash P (S "__firstlineno__")),(.str (S "__firstlineno__") 400),(.int 70 399)⟩,⟨(PyData.keyHash P (S "__doc__")),(.str (S "__doc__") 402),(.str (docS (topS p 5)) 401)⟩,⟨(PyData.keyHash P (S "__init__")),(.str (S "__init__") 417),(.ref 160)⟩,⟨(PyData.keyHash P (S "set_seqs")),(.str (S "set_seqs") 427),(.ref 167)⟩,⟨(PyData.keyHash P (S "set_seq1")),(.str (S "set_seq1") 436),(.ref 174)⟩,⟨(PyData.keyHash P (S "set_seq2")),(.str (S "set_seq2") 445),(.ref 181)⟩,⟨(PyData.keyHash P (S "_SequenceMatcher__chain_b")),(.str (S "_SequenceMatcher__chain_b") 463),(.ref 188)⟩,⟨(PyData.keyHash P (S "find_longest_match")),(.str (S "find_longest_match") 491),(.ref 196)⟩,⟨(PyData.keyHash P (S "get_matching_blocks")),(.str (S "get_matching_blocks") 518),(.ref 203)⟩,⟨(PyData.keyHash P (S "get_opcodes")),(.str (S "get_opcodes") 525),(.ref 210)⟩,⟨(PyData.keyHash P (S "get_grouped_opcodes")),(.str (S "get_grouped_opcodes") 534),(.ref 218)⟩,⟨(PyData.keyHash P (S "ratio")),(.str (S "ratio") 543),(.ref 225)⟩,⟨(PyData.keyHash P (S "quick_ratio")),(.str (S "quick_ratio") 550),(.ref 232)⟩,⟨(PyData.keyHash P (S "real_quick_ratio")),(.str (S "real_quick_ratio") 557),(.ref 239)⟩,⟨(PyData.keyHash P (S "__static_attributes__")),(.str (S "__static_attributes__") 568),(.ref 240)⟩,⟨(PyData.keyHash P (S "__dict__")),(.str (S "__dict__") 570),(.ref 243)⟩,⟨(PyData.keyHash P (S "__weakref__")),(.str (S "__weakref__") 572),(.ref 244)⟩] 3),#[]⟩),
 (242,⟨(.type "type"),none,(.cls { name:=(S "SequenceMatcher"),bases:=[(.type "object")],mro:=[(.ref 242),(.type "object")],ns:=241,qualname:=(S "SequenceMatcher"),hasDict:=true,slotNames:=[],subclasses:=[],abstract:=false,collection:=none,hasDel:=false }),#[none,none,(some (.str (S "SequenceMatcher") 389)),(some (.str (S "SequenceMatcher") 397)),(some (.builtin "object.__new__")),(some (.bool true))]⟩),
 (252,⟨(.type "code"),none,(.fields #[(.str (S "_law_growth") 577),(.str (S "_law_growth") 578),(.str (S "/claim/cut.py") 579),(.int 419 0),(.int 3 0),(.int 0 0),(.int 0 0),(.int 3 0),(.ref 247),(.bool true),(.int 181 0),(.ref 248),.none,(.ref 249),(.ref 250),(.ref 251),(.int 585 0),(.int 419 0),(.str (S "/claim/cut.py") 586)]),#[]⟩),
 (253,⟨(.type "function"),none,(.func (fnD (topS p 7) (S "_law_growth") .none .none 0 (.str (S "law_dm0058_09") 575) none (.ref 252) .none [])),#[]⟩),
 (259,⟨(.type "code"),none,(.fields #[(.str (S "_law_due") 588),(.str (S "_law_due") 589),(.str (S "/claim/cut.py") 590),(.int 425 0),(.int 7 0),(.int 0 0),(.int 0 0),(.int 3 0),(.ref 254),(.bool true),(.int 181 0),(.ref 255),.none,(.ref 256),(.ref 257),(.ref 258),(.int 604 0),(.int 425 0),(.str (S "/claim/cut.py") 605)]),#[]⟩),
 (260,⟨(.type "function"),none,(.func (fnD (topS p 8) (S "_law_due") .none .none 0 (.str (S "law_dm0058_09") 575) none (.ref 259) .none [])),#[]⟩),
 (266,⟨(.type "code"),none,(.fields #[(.str (S "_law_told") 607),(.str (S "_law_told") 608),(.str (S "/claim/cut.py") 609),(.int 449 0),(.int 5 0),(.int 0 0),(.int 0 0),(.int 3 0),(.ref 261),(.bool true),(.int 181 0),(.ref 262),.none,(.ref 263),(.ref 264),(.ref 265),(.int 618 0),(.int 449 0),(.str (S "/claim/cut.py") 619)]),#[]⟩),
 (267,⟨(.type "function"),none,(.func (fnD (topS p 9) (S "_law_told") .none .none 0 (.str (S "law_dm0058_09") 575) none (.ref 266) .none [])),#[]⟩),
 (271,⟨(.type "code"),none,(.fields #[(.str (S "law") 621),(.str (S "law") 622),(.str (S "/claim/cut.py") 623),(.int 457 0),(.int 1 0),(.int 0 0),(.int 0 0),(.int 3 0),(.ref 268),(.bool true),(.int 181 0),(.ref 269),.none,.none,.none,(.ref 270),(.int 624 0),(.int 457 0),(.str (S "/claim/cut.py") 625)]),#[]⟩),
 (272,⟨(.type "function"),none,(.func (fnD (topS p 10) (S "law") .none .none 0 (.str (S "law_dm0058_09") 575) none (.ref 271) .none [])),#[]⟩)]
noncomputable def KP (p:Program) (P:Params):Frag:=(269,⟨.none,none,.fields #[],#[]⟩) :: KP0 p P
noncomputable def Kas:List Addr:=[269,1,2,3,68,75,81,82,90,91,92,134,135,136,153,159,160,166,167,173,174,180,181,187,188,189,195,196,211,241,242,252,253,259,260,266,267,271,272]

theorem Zqb (p:Program) (P:Params):Kas=(KP p P).map (·.1):=rfl
noncomputable def xtV (s:Shared):Bool:=xlAt qV [] s && recOk [] s
noncomputable def obsT (w:World) (s:SharedT):=((staticsOk (importedModules pT.main.body) (boot_heap w.params) s.abs.heap && namesBound pT s.abs.heap && gensDone s.abs && laidKept (boot_heap w.params) s.abs.heap),
 PySem.W.Fast.tw4187177175401517315 qV Zbv (importedModules pT.main.body) xtV true s.abs,Kas.map s.abs.heap.get?,s.os)
set_option maxRecDepth 100000 in
theorem big:∀ (w:World),(λos=>(theRun w os).map (obsT w))=(λos=>some (true,openGood qV Zbv,(KP pT w.params).map (λp=>some p.2),os)):=λw=>by kernel_rfl
noncomputable def hkV:Hook:=kHook (KP PySem.Challenge.pw_dm0058_09) Kas (Zqb _)
theorem Zrj:∀ w:World,(fencedOpening treeTable PySem.Challenge.pw_dm0058_09 w 4600).map (λs=>(s.heap,s.gens,s.drawn,s.toks))=some (boot_heap w.params,Array.mk [],boot_drawn,boot_toks):=
 boot_open rfl (by decide) (λ_=>rfl)
theorem Zqp (w:World):((boot_heap w.params).isNs mainGlobals && (Array.mk []:Array GenState).size == 0,(boot_heap w.params).objs.size,(boot_heap w.params).nsMap mainGlobals "__annotations__")=(true,11,some (.ref 6)):=by kernel_rfl
theorem Zo7 (w:World) (os:OsState):(S0 w os).abs=⟨boot_heap w.params,#[],boot_drawn,boot_toks,os⟩:=by unfold S0 SharedT.abs;rw[Zl5]
theorem runV {w:World}{os:OsState}{s':SharedT} (hs:theRun w os=some s'):topRun treeTable PySem.Challenge.pw_dm0058_09 w 11 (some (.ref 6)) 4600 ⟨boot_heap w.params,#[],boot_drawn,boot_toks,os⟩ (topStub PySem.Challenge.pw_dm0058_09)=some s'.abs:=by unfold theRun at hs;have r:=Zh0 hs;rw[Zo7,<-Zlg]at r;exact topRun_mono 2300 _ _ _ _ r
theorem bigV (w:World) (os:OsState):(theRun w os).map (obsT w)=some (true,openGood qV Zbv,(KP pT w.params).map (λp=>some p.2),os):=congrFun (big w) os
theorem obsV {w:World}{os:OsState}{s':SharedT} (hs:theRun w os=some s'):obsT w s'=(true,openGood qV Zbv,(KP pT w.params).map (λp=>some p.2),os):=by have b:=bigV w os;rw[hs]at b;exact Option.some.inj b
theorem Zqx {w:World}{os:OsState}{s':SharedT} (hs:theRun w os=some s') :
  (staticsOk (importedModules PySem.Challenge.pw_dm0058_09.main.body) (boot_heap w.params) s'.abs.heap && namesBound PySem.Challenge.pw_dm0058_09 s'.abs.heap && gensDone s'.abs && laidKept (boot_heap w.params) s'.abs.heap)=true:=by
 rw[Zlg];exact congrArg (·.1) (obsV hs)
theorem Zqw {w:World}{os:OsState}{s':SharedT} (hs:theRun w os=some s'):openSeen qV Zbv (importedModules PySem.Challenge.pw_dm0058_09.main.body) xtV true s'.abs=openGood qV Zbv:=by rw[Zlg,PySem.W.Fast.te4187177175401517315];exact congrArg (·.2.1) (obsV hs)
theorem Zqv {w:World}{os:OsState}{s':SharedT} (hs:theRun w os=some s'):Kas.map s'.abs.heap.get?=(KP PySem.Challenge.pw_dm0058_09 w.params).map (λp=>some p.2):=by rw[Zlg];exact congrArg (·.2.2.1) (obsV hs)
theorem topV {w:World}{os:OsState}{s':SharedT} (hs:theRun w os=some s'):topFrom treeTable PySem.Challenge.pw_dm0058_09 w 4600 ⟨boot_heap w.params,#[],boot_drawn,boot_toks,os⟩=some s'.abs:=by
 obtain ⟨z1,z2,z3⟩:_/\_/\_:=by simpa only [Prod.mk.injEq] using Zqp w
 unfold topFrom;dsimp only;rw[z1,z2,z3,runV hs];show (match staticsOk _ _ _ && namesBound _ _ && gensDone _ && laidKept _ _ with | true=>_ | false=>_)=_;rw[Zqx hs]
theorem Zqo (w:World) (os:OsState):∃ s',theRun w os=some s':=by
 have b:=bigV w os;revert b;generalize theRun w os=x;cases x with
 | none=>intro b;cases b
 | some s'=>intro _;exact ⟨s',rfl⟩
theorem Zpd {w:World}{os:OsState}{s':SharedT} (hs:theRun w os=some s'):Hook.obs hkV s'.abs=Hook.val hkV w:=Zqv hs
theorem Zqu {w:World}{os:OsState}{s':SharedT} (hs:theRun w os=some s'):(topFrom treeTable PySem.Challenge.pw_dm0058_09 w 4600 ⟨boot_heap w.params,#[],boot_drawn,boot_toks,os⟩).map (λs=>(openSeen qV Zbv (importedModules PySem.Challenge.pw_dm0058_09.main.body) xtV true s,Hook.obs hkV s))=some (openGood qV Zbv,Hook.val hkV w):=by rw[topV hs];show some (openSeen qV Zbv (importedModules PySem.Challenge.pw_dm0058_09.main.body) xtV true s'.abs,Hook.obs hkV s'.abs)=_;rw[Zqw hs,Zpd hs]
theorem Zp2 (w:World):∃ os,fencedOpening treeTable PySem.Challenge.pw_dm0058_09 w 4600=some ⟨boot_heap w.params,#[],boot_drawn,boot_toks,os⟩:=by
 have b:=Zrj w;revert b;generalize fencedOpening treeTable PySem.Challenge.pw_dm0058_09 w 4600=x;cases x with
 | none=>intro b;cases b
 | some s=>
  obtain ⟨h,gs,d,k,os⟩:=s;intro b;have b:=Option.some.inj b;have e1:h=boot_heap w.params:=congrArg (·.1) b;have e2:gs = #[]:=congrArg (·.2.1) b;have e3:d=boot_drawn:=congrArg (·.2.2.1) b;have e4:k=boot_toks:=congrArg (·.2.2.2) b;exact ⟨os,by rw[e1,e2,e3,e4]⟩
theorem left:LeftO PySem.Challenge.pw_dm0058_09 qV Zbv xtV (Hook.obs hkV) (Hook.val hkV) 4600:=by intro w;obtain ⟨os,e⟩:=Zp2 w;obtain ⟨s',hs⟩:=Zqo w os;unfold openEnds;rw[e];rw[Option.bind_some];exact Zqu hs

noncomputable abbrev Ze5 (w:World) (s:Shared) (l:Addr):Prop:=
 wpAny (model PySem.Challenge.pw_dm0058_09 w) callerA (call (.ref 272) [.ref l])
  (λv s'=>v = .bool true/\OldK s.heap s'.heap/\s'.os=s.os/\AllBare s'.gens) (λ_ _=>False) s
theorem Zpb {w:World}{h:Heap}{mg:PySem.Str->Option Value} (X:(KP PySem.Challenge.pw_dm0058_09 w.params).In h) (g:h.Ns mainGlobals mg):mg (S "law")=some (.ref 272):=by obtain ⟨o,es,ep,ho,hd,_,hm⟩:=g;rw[<-hm];have e:=X 3 _ (show _=some _ from rfl);rw[show mainGlobals=3 from rfl,e]at ho;cases ho;cases hd;kernel_rfl
set_option maxHeartbeats 8000000 in
theorem head (walk:∀ (w:World) (s:Shared) (mean:ExcName->Option Value) (mg mb:PySem.Str->Option Value) (l:Addr) (vs:List Value) (ns:List Int),
   Top qV (looseW qV Zbv) mean mg mb s.heap->(KP PySem.Challenge.pw_dm0058_09 w.params).In s.heap->s.gens = #[]->s.heap.IsList l vs.toArray->IntsAre vs ns->ns.length<=63 ->
   (PyData.list (ns.map PyData.int)).layable0=true->Ze5 w s l):PySem.Challenge.rw_dm0058_09.Holds:=by
 w_on
 refine holds_law (by kernel_rfl) λsaid=>?_;refine holds_open (q:=qV) (loose:=Zbv) (Xt:=xtV) (XP:=XL qV []) (Yf:=Hook.obs hkV) (Ya:=Hook.val hkV) (YP:=Hook.says hkV) (N:=4600) left (Hook.of hkV) (Hook.keeps hkV) (λs e=>xl_of s (Bool.and_eq_true_iff.mp e).1) XL.keeps (by rfl) (by rfl) (by rfl) (λs e=>recFacts_of (Bool.and_eq_true_iff.mp e).2) (by rfl) ‹_› (by decide +kernel) ⟨rfl,rfl,rfl,rfl,rfl,by decide +kernel⟩ ?hw ?hc
 case hw=>w_witness2
 intro w s₀ sY mg mb G Y fa o pm cd doc dV kV ho hd hcd hD hmg hg args vals as hpre hlay hrd hwl hlo;have X:(KP PySem.Challenge.pw_dm0058_09 w.params).In sY.heap:=Y;have T:=G.T;clear ho hd hcd hD Y;have hfa:fa=272:=by have h1:=Zpb X T.g;have h2:mg (S "law")=some (.ref fa):=hmg;rw[h1]at h2;cases h2;rfl
 subst hfa;clear hmg
 wrow_args hpre hlay hrd hwl hlo
 rename_i ns _ _ hL _ _ _ _ l vs _ hl _ _ _ hI _ hc _;refine wpAny_mono (walk w sY _ mg mb l vs ns T X hg hl hI (by omega) hL) (λv s' h=>?_) (λ_ _ h=>h.elim);obtain ⟨hv,hk,hos,hb⟩:=h;subst hv;exact ⟨.inl ⟨_,.bool true,[],rfl,λ_=>rfl,.bool true,by kernel_rfl,λ_=>⟨List.nodup_nil,λ_ h=>by cases h⟩⟩,hk,hos,hb⟩
set_option tactic.hygienic false
noncomputable abbrev PW:=PySem.Challenge.pw_dm0058_09
noncomputable def BadP (w:World):Prop:=∃ (s:Shared) (mean:ExcName->Option Value) (mg mb:PySem.Str->Option Value) (l:Addr) (vs:List Value) (ns:List Int),Top qV (looseW qV Zbv) mean mg mb s.heap/\(KP PySem.Challenge.pw_dm0058_09 w.params).In s.heap/\s.gens = #[]/\s.heap.IsList l vs.toArray/\IntsAre vs ns/\ns.length<=63/\¬ Ze5 w s l
noncomputable def W0:World:=@Classical.epsilon _ ⟨⟨λ_ _=>0,{ strHash:=λ_=>0,shareClass:=λ_=>0,mergeTok:=λt=>t,idOf:=λ_=>0,idOfShared:=λ_ _=>0,followText:=λ_=>true,idOfImm:=λ_=>0 }⟩⟩ BadP
theorem Zrd (walk:∀ (s:Shared) (mean:ExcName->Option Value) (mg mb:PySem.Str->Option Value) (l:Addr) (vs:List Value) (ns:List Int),Top qV (looseW qV Zbv) mean mg mb s.heap->(KP PySem.Challenge.pw_dm0058_09 W0.params).In s.heap->s.gens = #[]->s.heap.IsList l vs.toArray->IntsAre vs ns->ns.length<=63->Ze5 W0 s l):PySem.Challenge.rw_dm0058_09.Holds:=
 head λw s mean mg mb l vs ns T X hg hl hI hlen _=>Classical.byContradiction λhn=>by obtain ⟨s,mean,mg,mb,l,vs,ns,T,X,hg,hl,hI,hlen,hn⟩:=Classical.epsilon_spec (p:=BadP) ⟨w,s,mean,mg,mb,l,vs,ns,T,X,hg,hl,hI,hlen,hn⟩;exact hn (walk s mean mg mb l vs ns T X hg hl hI hlen)
inductive AV where
 | none
 | bool (b:Bool)
 | int (i:Int)
 | str (s:PySem.Str)
 | flt (x:UInt64)
 | ref (a:Addr)
 | ty (n:String)
 | bi (id:String)
 | tup (xs:List AV)
 | mat (xs:List AV)
noncomputable abbrev Loc:=PySem.Str->Option AV
inductive AO where
 | list (xs:List AV)
 | ns (m:Loc)
 | atr (m:Loc)
 | obj (o:Obj)
 | cell (v:Option AV)
 | dict (kvs:List (Int × AV))
 | set (f:Int->Bool) (n:Nat)
noncomputable abbrev Hp:=Addr->Option AO
noncomputable def Hp.set (hp:Hp) (a:Addr) (o:AO):Hp:=λb=>if b=a then some o else hp b
theorem Hp.ss (hp:Hp) (a:Addr) (o:AO):(hp.set a o) a=some o:=by simp[Hp.set]
theorem Hp.sn (hp:Hp) {a b:Addr} (o:AO) (h:b≠a):(hp.set a o) b=hp b:=by simp[Hp.set,h]
theorem Hp.snt {hp:Hp}{a b:Addr}{o:AO}{r:Option AO} (h:b≠a) (g:hp b=r):(hp.set a o) b=r:=(Hp.sn hp o h).trans g
theorem Hp.snr {hp:Hp}{a b:Addr}{o:AO}{r:Option AO} (h:b≠a) (g:(hp.set a o) b=r):hp b=r:=(Hp.sn hp o h).symm.trans g
theorem Hp.set_set (hp:Hp) (a:Addr) (o o':AO):(hp.set a o).set a o'=hp.set a o':=by funext b;by_cases h:b=a <;> simp[Hp.set,h]
theorem Hp.sc (hp:Hp) {a b:Addr} (o o':AO) (h:a≠b):(hp.set a o).set b o'=(hp.set b o').set a o:=by
 funext c;simp only[Hp.set];by_cases h1:c=a
 .by_cases h2:c=b
  .exact absurd (h1.symm.trans h2) h
  .simp [h1,h]
 .by_cases h2:c=b
  .subst h2;simp[h1]
  .simp [h1,h2]
noncomputable abbrev matC:Addr:=135
noncomputable def Imm (o:Obj):Prop:=(o.cls = .type "tuple" \/ o.cls = .ref matC)/\∃ xs n,o.data = .seq xs n
noncomputable def ImmLe (h h':Heap):Prop:=∀ b o,h.get? b=some o->Imm o->h'.get? b=some o
theorem ImmLe.refl (h:Heap):ImmLe h h:=λ_ _ e _=>e
theorem ImmLe.trans {hY h₂ h₃:Heap} (x:ImmLe hY h₂) (y:ImmLe h₂ h₃):ImmLe hY h₃:=λb o e i=>y b o (x b o e i) i
theorem ImmLe.keep {h h':Heap} (x:∀ b o,h.get? b=some o->h'.get? b=some o):ImmLe h h':=λb o e _=>x b o e
noncomputable def IsMat (h:Heap) (a:Addr) (items:Array Value):Prop:=∃ o,h.get? a=some o/\o.cls = .ref matC/\∃ n,o.data = .seq items n
mutual
noncomputable def VR (h:Heap):AV->Value->Prop
 | .none,v=>v = .none
 | .bool b,v=>v = .bool b
 | .int i,v=>∃ t,v = .int i t
 | .str s,v=>∃ t,v = .str s t
 | .flt x,v=>∃ t,v = .float x t
 | .ref a,v=>v = .ref a
 | .ty n,v=>v = .type n
 | .bi n,v=>v = .builtin n
 | .tup xs,v=>∃ a vs,v = .ref a/\IsTup h a vs/\VRs h xs vs.toList
 | .mat xs,v=>∃ a vs,v = .ref a/\IsMat h a vs/\VRs h xs vs.toList
noncomputable def VRs (h:Heap):List AV->List Value->Prop
 | [],vs=>vs=[]
 | x :: xs,vs=>∃ v r,vs=v :: r/\VR h x v/\VRs h xs r
end
theorem IsTup.imm {h h':Heap} (le:ImmLe h h') {a:Addr}{vs:Array Value} (x:IsTup h a vs):IsTup h' a vs:=let ⟨o,ho,hc,n,r⟩:=x;⟨o,le a o ho ⟨.inl hc,_,n,r⟩,hc,n,r⟩
theorem IsMat.imm {h h':Heap} (le:ImmLe h h') {a:Addr}{vs:Array Value} (x:IsMat h a vs):IsMat h' a vs:=let ⟨o,ho,hc,n,r⟩:=x;⟨o,le a o ho ⟨.inr hc,_,n,r⟩,hc,n,r⟩
mutual
theorem VR.mono {h h':Heap} (le:ImmLe h h'):∀ {x:AV}{v:Value},VR h x v->VR h' x v
 | .none,_,e=>by simpa only [VR] using e
 | .bool _,_,e=>by simpa only [VR] using e
 | .int _,_,e=>by simpa only [VR] using e
 | .str _,_,e=>by simpa only [VR] using e
 | .flt _,_,e=>by simpa only [VR] using e
 | .ref _,_,e=>by simpa only [VR] using e
 | .ty _,_,e=>by simpa only [VR] using e
 | .bi _,_,e=>by simpa only [VR] using e
 | .tup xs,v,e=>by simp only[VR]at e ⊢;refine hide λ_ Z=>?_;obtain ⟨a,vs,e1,e2,e3⟩:=e;apply Z;clear Z;exact ⟨a,vs,e1,IsTup.imm le e2,VRs.mono le e3⟩
 | .mat xs,v,e=>by simp only[VR]at e ⊢;refine hide λ_ Z=>?_;obtain ⟨a,vs,e1,e2,e3⟩:=e;apply Z;clear Z;exact ⟨a,vs,e1,IsMat.imm le e2,VRs.mono le e3⟩
theorem VRs.mono {h h':Heap} (le:ImmLe h h'):∀ {xs:List AV}{vs:List Value},VRs h xs vs->VRs h' xs vs
 | [],_,e=>by simpa only [VRs] using e
 | x :: xs,vs,e=>by simp only[VRs]at e ⊢;obtain ⟨v,r,e1,e2,e3⟩:=e;exact ⟨v,r,e1,VR.mono le e2,VRs.mono le e3⟩
end
theorem VRs.length {h:Heap}:∀ {xs:List AV}{vs:List Value},VRs h xs vs->vs.length=xs.length
 | [],_,e=>by simp only[VRs]at e;subst e;rfl
 | x :: xs,vs,e=>by simp only[VRs]at e;obtain ⟨v,r,rfl,_,e3⟩:=e;simp[VRs.length e3]
theorem VRs.append {h:Heap}:∀ {xs ys:List AV}{vs ws:List Value},VRs h xs vs->VRs h ys ws->VRs h (xs ++ ys) (vs ++ ws)
 | [],_,_,_,e,e'=>by simp only[VRs]at e;subst e;exact e'
 | x :: xs,ys,vs,ws,e,e'=>by simp only[VRs]at e;obtain ⟨v,r,rfl,e2,e3⟩:=e;simp only[List.cons_append,VRs];exact ⟨v,r ++ ws,rfl,e2,VRs.append e3 e'⟩
theorem VRs.one {h:Heap}{x:AV}{v:Value} (e:VR h x v):VRs h [x] [v]:=by simp only[VRs];exact ⟨v,[],rfl,e,rfl⟩
theorem VRs.get {h:Heap}:∀ {xs:List AV}{vs:List Value}{i:Nat}{x:AV},VRs h xs vs->xs[i]?=some x->∃ v,vs[i]?=some v/\VR h x v
 | [],_,_,_,_,e=>by simp at e
 | y :: xs,vs,0,x,e,hx=>by simp only[VRs]at e;obtain ⟨v,r,rfl,e2,_⟩:=e;simp only[List.getElem?_cons_zero,Option.some.injEq]at hx;subst hx;exact ⟨v,rfl,e2⟩
 | y :: xs,vs,i + 1,x,e,hx=>by simp only[VRs]at e;obtain ⟨v,r,rfl,_,e3⟩:=e;simp only[List.getElem?_cons_succ]at hx ⊢;exact VRs.get e3 hx
theorem VRs.take {h:Heap}:∀ {xs:List AV}{vs:List Value} (n:Nat),VRs h xs vs->VRs h (xs.take n) (vs.take n)
 | [],_,n,e=>by simp only[VRs]at e;subst e;simp[VRs]
 | x :: xs,vs,0,e=>by simp[VRs]
 | x :: xs,vs,n + 1,e=>by simp only[VRs]at e;obtain ⟨v,r,rfl,e2,e3⟩:=e;simp only[List.take_succ_cons,VRs];exact ⟨v,_,rfl,e2,VRs.take n e3⟩
theorem VRs.drop {h:Heap}:∀ {xs:List AV}{vs:List Value} (n:Nat),VRs h xs vs->VRs h (xs.drop n) (vs.drop n)
 | [],_,n,e=>by simp only[VRs]at e;subst e;simp[VRs]
 | x :: xs,vs,0,e=>by simpa using e
 | x :: xs,vs,n + 1,e=>by simp only[VRs]at e;obtain ⟨v,r,rfl,e2,e3⟩:=e;simp only[List.drop_succ_cons];exact VRs.drop n e3
noncomputable def LocR (h:Heap) (m:Loc) (mv:PySem.Str->Option Value):Prop:=(∀ x v,m x=some v->∃ u,mv x=some u/\VR h v u)/\∀ x,m x=none->mv x=none
noncomputable def attrNames:List PySem.Str:=["isjunk", "a", "b", "autojunk", "matching_blocks", "opcodes", "fullbcount", "b2j", "bjunk", "bpopular"]
noncomputable def IPairs:List DictEntry->List (Int × Value)->Prop
 | [],ps=>ps=[]
 | e :: es,ps=>∃ kv r,ps=kv :: r/\Value.isInt kv.1 e.key=true/\e.val=kv.2/\IPairs es r
noncomputable def IDict (h:Heap) (a:Addr) (ps:List (Int × Value)):Prop:=
 ∃ o es ep,h.get? a=some o/\o.ExactDict/\o.data = .dict es ep/\(∀ e ∈ es,∃ k,Value.isInt k e.key=true/\e.hash=hashInt k)/\IPairs es.toList ps/\(ps.map (·.1)).Nodup
noncomputable def ISet (h:Heap) (a:Addr) (f:Int->Bool) (n:Nat):Prop:=
 ∃ o es ep t,h.get? a=some o/\o.ExactSet/\o.data = .set es ep t/\(∀ e ∈ es.toList,(∃ k,Value.isInt k e.2=true/\e.1=hashInt k)/\e.2.scannable=true)/\(∀ k,f k=true ↔ ∃ e ∈ es.toList,Value.isInt k e.2=true)
  /\ es.size < scanBound/\t.fits es.size=true/\es.size=n
noncomputable def CellR (h:Heap):Option AV->Option Value->Prop
 | none,u=>u=none
 | some v,u=>∃ x,u=some x/\VR h v x
theorem CellR.mono {h h':Heap} (le:ImmLe h h'):∀ {v:Option AV}{u:Option Value},CellR h v u->CellR h' v u
 | none,_,e=>e
 | some _,_,⟨x,e,hv⟩=>⟨x,e,hv.mono le⟩
noncomputable def OR (h:Heap) (a:Addr):AO->Prop
 | .list xs=>∃ vs n,IsL h a vs n/\VRs h xs vs.toList
 | .ns m=>∃ mv,h.Ns a mv/\LocR h m mv
 | .atr m=>∃ mv,h.Ns1 a mv/\LocR h m mv/\Within mv attrNames
 | .obj o=>h.get? a=some o/\¬ Imm o
 | .cell v=>∃ o u,h.get? a=some o/\o.data = .cell u/\CellR h v u
 | .dict kvs=>∃ ps,IDict h a ps/\ps.map (·.1)=kvs.map (·.1)/\VRs h (kvs.map (·.2)) (ps.map (·.2))
 | .set f n=>ISet h a f n
noncomputable def GensLe (a b:Array GenState):Prop:=∀ (i:Nat) (g:GenState),a[i]?=some g->b[i]?=some g
theorem GensLe.refl (a:Array GenState):GensLe a a:=λ_ _ e=>e
theorem GensLe.trans {a b c:Array GenState} (x:GensLe a b) (y:GensLe b c):GensLe a c:=λi g e=>y i g (x i g e)
structure Rel (B:Shared) (hp:Hp) (s:Shared):Prop where
 keep:∀ b o,B.heap.get? b=some o->s.heap.get? b=some o
 objs:∀ a o,hp a=some o->B.heap.get? a=none/\OR s.heap a o
 os:s.os=B.os
 bare:AllBare s.gens/\GensLe B.gens s.gens
 size:True
theorem noE {α:Type}{x:Option α}{o : α}{p:Prop} (h:x=none) (e:x=some o):p:=nomatch h.symm.trans e
theorem Rel.nob {B s:Shared}{hp:Hp} (r:Rel B hp s) {a:Addr} (h:s.heap.objs.size<=a):B.heap.get? a=none:=by
 cases e:B.heap.get? a with
 | none=>rfl
 | some o=>exact absurd (Heap.lt_size (r.keep a o e)) (Nat.not_lt.mpr h)
theorem LocR.mono {h h':Heap} (le:ImmLe h h') {m:Loc}{mv:PySem.Str->Option Value} (x:LocR h m mv):LocR h' m mv:=⟨λy v e=>let ⟨u,a,b⟩:=x.1 y v e;⟨u,a,b.mono le⟩,x.2⟩
theorem OR.here {h h':Heap} (le:ImmLe h h') {a:Addr} (e:∀ o,h.get? a=some o->h'.get? a=some o) {o:AO} (x:OR h a o):OR h' a o:=by
 cases o with
 | list xs=>obtain ⟨vs,n,x,y⟩:=x;exact ⟨vs,n,e _ x,y.mono le⟩
 | ns m=>obtain ⟨mv,⟨o,es,ep,ho,r⟩,y⟩:=x;exact ⟨mv,⟨o,es,ep,e _ ho,r⟩,y.mono le⟩
 | atr m=>obtain ⟨mv,⟨o,es,ep,ho,r⟩,y⟩:=x;exact ⟨mv,⟨o,es,ep,e _ ho,r⟩,y.1.mono le,y.2⟩
 | obj o=>exact ⟨e _ x.1,x.2⟩
 | cell v=>obtain ⟨o,u,ho,hd,hc⟩:=x;exact ⟨o,u,e _ ho,hd,hc.mono le⟩
 | dict kvs=>obtain ⟨ps,⟨o,es,ep,ho,r⟩,hk,hv⟩:=x;exact ⟨ps,⟨o,es,ep,e _ ho,r⟩,hk,hv.mono le⟩
 | set f n=>obtain ⟨o,es,ep,t,ho,r⟩:=x;exact ⟨o,es,ep,t,e _ ho,r⟩
theorem OR.ex {h:Heap}{a:Addr}{o:AO} (x:OR h a o):∃ ob,h.get? a=some ob:=by
 cases o with
 | list xs=>exact ⟨_,x.choose_spec.choose_spec.1⟩
 | ns m=>obtain ⟨_,⟨o,_,_,ho,_⟩,_⟩:=x;exact ⟨o,ho⟩
 | atr m=>obtain ⟨_,⟨o,_,_,ho,_⟩,_⟩:=x;exact ⟨o,ho⟩
 | obj o=>exact ⟨_,x.1⟩
 | cell v=>obtain ⟨o,_,ho,_⟩:=x;exact ⟨o,ho⟩
 | dict kvs=>obtain ⟨_,⟨o,_,_,ho,_⟩,_⟩:=x;exact ⟨o,ho⟩
 | set f n=>obtain ⟨o,_,_,_,ho,_⟩:=x;exact ⟨o,ho⟩
theorem Rel.lt {B s:Shared}{hp:Hp} (r:Rel B hp s) {a:Addr}{o:AO} (e:hp a=some o):a < s.heap.objs.size:=let ⟨_,h⟩:=(r.objs a o e).2.ex;Heap.lt_size h
theorem Rel.sub {B s:Shared}{hp hp':Hp} (r:Rel B hp s) (le:∀ a o,hp' a=some o->hp a=some o):Rel B hp' s:=⟨r.keep,λa o e=>r.objs a o (le a o e),r.os,r.bare,r.size⟩
theorem Rel.toks {B s:Shared}{hp:Hp} (r:Rel B hp s) (t:Nat):Rel B hp { s with toks:=t }:=⟨r.keep,r.objs,r.os,r.bare,r.size⟩
theorem Rel.alloc {B s:Shared}{hp:Hp} (r:Rel B hp s) (ob:Obj) (o:AO) (ho:OR (s.heap.push ob) s.heap.objs.size o):Rel B (hp.set s.heap.objs.size o) { s with heap:=s.heap.push ob } where
 keep b o' e:=Heap.get?_push_of_some _ (r.keep b o' e)
 objs a o' e:=by
  by_cases h:a=s.heap.objs.size
  .subst h;rw[Hp.ss]at e;cases e;exact ⟨r.nob (Nat.le_refl _),ho⟩
  .rw [Hp.sn _ _ h]at e;have x:=r.objs a o' e;exact ⟨x.1,x.2.here (ImmLe.keep λb o'' e=>Heap.get?_push_of_some _ e) λo'' e=>Heap.get?_push_of_some _ e⟩
 os:=r.os
 bare:=r.bare
 size:=trivial
theorem Rel.push {B s:Shared}{hp:Hp} (r:Rel B hp s) (ob:Obj):Rel B hp { s with heap:=s.heap.push ob } where
 keep b o' e:=Heap.get?_push_of_some _ (r.keep b o' e)
 objs a o' e:=⟨(r.objs a o' e).1,(r.objs a o' e).2.here (ImmLe.keep λb o'' e=>Heap.get?_push_of_some _ e) λo'' e=>Heap.get?_push_of_some _ e⟩
 os:=r.os
 bare:=r.bare
 size:=trivial
theorem Rel.fresh {B s:Shared}{hp:Hp} (r:Rel B hp s):hp s.heap.objs.size=none:=by
 cases h:hp s.heap.objs.size with
 | none=>rfl
 | some o=>exact absurd (r.lt h) (Nat.lt_irrefl _)
theorem Imm.no {h:Heap}{a:Addr}{o ob:Obj} (ho:h.get? a=some o) (e:h.get? a=some ob) (n:∀ xs k,o.data≠.seq xs k):¬ Imm ob:=λ⟨_,xs,k,d⟩=>by rw[ho]at e;cases e;exact n _ _ d
theorem OR.notImm {h:Heap}{a:Addr}{o:AO} (x:OR h a o) (ob:Obj) (e:h.get? a=some ob):¬ Imm ob:=by
 cases o with
 | list xs=>
  obtain ⟨_,_,x,_⟩:=x;rw[show h.get? a=_ from x]at e;cases e;intro i;rcases i with ⟨i | i,_⟩
  .exact absurd (Value.type.inj i) (by decide)
  .cases i
 | ns m=>obtain ⟨_,⟨o,_,_,ho,hd,_⟩,_⟩:=x;exact Imm.no ho e λ_ _ h=>by rw[hd]at h;cases h
 | atr m=>obtain ⟨_,⟨o,_,_,ho,hd,_⟩,_⟩:=x;exact Imm.no ho e λ_ _ h=>by rw[hd]at h;cases h
 | obj o=>rw[x.1]at e;cases e;exact x.2
 | cell v=>obtain ⟨o,_,ho,hd,_⟩:=x;exact Imm.no ho e λ_ _ h=>by rw[hd]at h;cases h
 | dict kvs=>obtain ⟨_,⟨o,_,_,ho,_,hd,_⟩,_⟩:=x;exact Imm.no ho e λ_ _ h=>by rw[hd]at h;cases h
 | set f n=>obtain ⟨o,_,_,_,ho,_,hd,_⟩:=x;exact Imm.no ho e λ_ _ h=>by rw[hd]at h;cases h
theorem Rel.turn {B s:Shared}{hp:Hp} (r:Rel B hp s) {a:Addr}{o:AO} (ha:hp a=some o) {h':Heap} (hs:Heap.SameBut a s.heap h') (o':AO) (ho:ImmLe s.heap h'->OR h' a o') (t:Nat) :
  Rel B (hp.set a o') { s with heap:=h',toks:=t }/\ImmLe s.heap h':=by
 have le:ImmLe s.heap h':=λb ob e i=>by
  by_cases h:b=a
  .subst h;exact absurd i ((r.objs b o ha).2.notImm ob e)
  .rw [hs.2 b h];exact e
 refine ⟨⟨λb ob e=>?_,λb ob e=>?_,r.os,r.bare,trivial⟩,le⟩
 .have:b≠a:=by rintro rfl;exact noE (r.objs b o ha).1 e
  show h'.get? b=some ob;rw[hs.2 b this];exact r.keep b ob e
 .by_cases h:b=a
  .subst h;rw[Hp.ss]at e;cases e;exact ⟨(r.objs b o ha).1,ho le⟩
  .rw [Hp.sn _ _ h]at e;have x:=r.objs b ob e;exact ⟨x.1,x.2.here le λo'' e=>by show h'.get? b=some o'';rw[hs.2 b h];exact e⟩
inductive AF where
 | next | brk | cont
 | ret (v:AV)
abbrev QV:=AV->Hp->Prop
abbrev QX:=AF->Loc->Hp->Prop
abbrev ET:=Value->Shared->Prop
noncomputable def FR (h:Heap):AF->Flow->Prop
 | .next,f=>f = .next
 | .brk,f=>f = .brk
 | .cont,f=>f = .cont
 | .ret v,f=>∃ u,f = .ret u/\VR h v u
inductive PV (B:Shared) (L:Addr) (m:Loc) (h:Heap) (Q:QV) (v:Value) (s':Shared):Prop where
 | mk (av:AV) (hp':Hp) (r:Rel B (hp'.set L (.ns m)) s') (le:ImmLe h s'.heap) (hv:VR s'.heap av v) (q:Q av hp')
inductive PVs (B:Shared) (L:Addr) (m:Loc) (h:Heap) (Q:List AV->Hp->Prop) (v:List Value) (s':Shared):Prop where
 | mk (av:List AV) (hp':Hp) (r:Rel B (hp'.set L (.ns m)) s') (le:ImmLe h s'.heap) (hv:VRs s'.heap av v) (q:Q av hp')
inductive PT (B:Shared) (L:Addr) (m:Loc) (h:Heap) (Q:Bool->Hp->Prop) (v:Bool) (s':Shared):Prop where
 | mk (hp':Hp) (r:Rel B (hp'.set L (.ns m)) s') (le:ImmLe h s'.heap) (q:Q v hp')
inductive PA (B:Shared) (L:Addr) (h:Heap) (Q:Loc->Hp->Prop) (v:Unit) (s':Shared):Prop where
 | mk (m':Loc) (hp':Hp) (r:Rel B (hp'.set L (.ns m')) s') (le:ImmLe h s'.heap) (q:Q m' hp')
inductive PX (B:Shared) (L:Addr) (h:Heap) (Q:QX) (v:Flow) (s':Shared):Prop where
 | mk (af:AF) (m':Loc) (hp':Hp) (r:Rel B (hp'.set L (.ns m')) s') (le:ImmLe h s'.heap) (hf:FR s'.heap af v) (q:Q af m' hp')
section
variable {M:Model}{A:Around}{E:ET}{B:Shared}{env:Env}{m:Loc}{hp:Hp}
noncomputable def EV (M:Model) (A:Around) (E:ET) (B:Shared) (env:Env) (e:Expr) (m:Loc) (hp:Hp) (Q:QV):Prop:=
 ∀ s,Rel B (hp.set env.locals (.ns m)) s->wpAny M A (eval e env) (PV B env.locals m s.heap Q) E s
noncomputable def TST (M:Model) (A:Around) (E:ET) (B:Shared) (env:Env) (e:Expr) (m:Loc) (hp:Hp) (Q:Bool->Hp->Prop):Prop:=
 ∀ s,Rel B (hp.set env.locals (.ns m)) s->wpAny M A (isTrue e env (eval e env)) (PT B env.locals m s.heap Q) E s
noncomputable def EX (M:Model) (A:Around) (E:ET) (B:Shared) (env:Env) (st:Stmt) (m:Loc) (hp:Hp) (Q:QX):Prop:=
 ∀ s,Rel B (hp.set env.locals (.ns m)) s->wpAny M A (exec st env) (PX B env.locals s.heap Q) E s
noncomputable def EXs (M:Model) (A:Around) (E:ET) (B:Shared) (env:Env) (sts:List Stmt) (m:Loc) (hp:Hp) (Q:QX):Prop:=
 ∀ s,Rel B (hp.set env.locals (.ns m)) s->wpAny M A (execs sts env) (PX B env.locals s.heap Q) E s
theorem mkV {B s s':Shared}{L:Addr}{m:Loc}{Q:QV}{v:Value}{av:AV}{hp':Hp} (r:Rel B (hp'.set L (.ns m)) s') (le:ImmLe s.heap s'.heap) (hv:VR s'.heap av v) (q:Q av hp'):PV B L m s.heap Q v s':=⟨av,hp',r,le,hv,q⟩
theorem mkT {B s s':Shared}{L:Addr}{m:Loc}{Q:Bool->Hp->Prop}{v:Bool}{hp':Hp} (r:Rel B (hp'.set L (.ns m)) s') (le:ImmLe s.heap s'.heap) (q:Q v hp'):PT B L m s.heap Q v s':=⟨hp',r,le,q⟩
theorem mkA {B s s':Shared}{L:Addr}{v:Unit}{Q:Loc->Hp->Prop}{m':Loc}{hp':Hp} (r:Rel B (hp'.set L (.ns m')) s') (le:ImmLe s.heap s'.heap) (q:Q m' hp'):PA B L s.heap Q v s':=⟨m',hp',r,le,q⟩
theorem mkX {B s s':Shared}{L:Addr}{Q:QX}{f:Flow}{af:AF}{m':Loc}{hp':Hp} (r:Rel B (hp'.set L (.ns m')) s') (le:ImmLe s.heap s'.heap) (hf:FR s'.heap af f) (q:Q af m' hp'):PX B L s.heap Q f s':=⟨af,m',hp',r,le,hf,q⟩
theorem useV {M:Model}{A:Around}{X:Sem Value}{B s:Shared}{L:Addr}{m:Loc}{Q:QV}{E:ET}{W:ET} (h:wpAny M A X (PV B L m s.heap Q) E s) (k:∀ v s' av hp',Rel B (hp'.set L (.ns m)) s'->ImmLe s.heap s'.heap->VR s'.heap av v->Q av hp'->W v s'):wpAny M A X W E s:=
 wpAny_mono h (λv s' x=>by obtain ⟨av,hp',r,le,hv,q⟩:=x;exact k v s' av hp' r le hv q) λ_ _ x=>x
theorem Zcu {M:Model}{A:Around}{X:Sem (List Value)}{B s:Shared}{L:Addr}{m:Loc}{Q:List AV->Hp->Prop}{E:ET}{W:(List Value)->Shared->Prop} (h:wpAny M A X (PVs B L m s.heap Q) E s) (k:∀ v s' av hp',Rel B (hp'.set L (.ns m)) s'->ImmLe s.heap s'.heap->VRs s'.heap av v->Q av hp'->W v s'):wpAny M A X W E s:=
 wpAny_mono h (λv s' x=>by obtain ⟨av,hp',r,le,hv,q⟩:=x;exact k v s' av hp' r le hv q) λ_ _ x=>x
theorem useT {M:Model}{A:Around}{X:Sem Bool}{B s:Shared}{L:Addr}{m:Loc}{Q:Bool->Hp->Prop}{E:ET}{W:Bool->Shared->Prop} (h:wpAny M A X (PT B L m s.heap Q) E s) (k:∀ v s' hp',Rel B (hp'.set L (.ns m)) s'->ImmLe s.heap s'.heap->Q v hp'->W v s'):wpAny M A X W E s:=
 wpAny_mono h (λv s' x=>by obtain ⟨hp',r,le,q⟩:=x;exact k v s' hp' r le q) λ_ _ x=>x
theorem Zo1 {M:Model}{A:Around}{X:Sem Bool}{B s:Shared}{L:Addr}{m:Loc}{Q:Bool->Hp->Prop}{E:ET}{W:Bool->Shared->Prop} (h:wpAny M A X (PT B L m s.heap Q) (λ_ _=>False) s) (k:∀ v s' hp',Rel B (hp'.set L (.ns m)) s'->ImmLe s.heap s'.heap->Q v hp'->W v s'):wpAny M A X W E s:=
 wpAny_mono h (λv s' x=>by obtain ⟨hp',r,le,q⟩:=x;exact k v s' hp' r le q) λ_ _ x=>x.elim
theorem useA {M:Model}{A:Around}{X:Sem Unit}{B s:Shared}{L:Addr}{Q:Loc->Hp->Prop}{E:ET}{W:Unit->Shared->Prop} (h:wpAny M A X (PA B L s.heap Q) E s) (k:∀ v s' m' hp',Rel B (hp'.set L (.ns m')) s'->ImmLe s.heap s'.heap->Q m' hp'->W v s'):wpAny M A X W E s:=
 wpAny_mono h (λv s' x=>by obtain ⟨m',hp',r,le,q⟩:=x;exact k v s' m' hp' r le q) λ_ _ x=>x
theorem Zk2 {M:Model}{A:Around}{X:Sem Unit}{B s:Shared}{L:Addr}{Q:Loc->Hp->Prop}{E:ET}{W:Unit->Shared->Prop} (h:wpAny M A X (PA B L s.heap Q) (λ_ _=>False) s) (k:∀ v s' m' hp',Rel B (hp'.set L (.ns m')) s'->ImmLe s.heap s'.heap->Q m' hp'->W v s'):wpAny M A X W E s:=
 wpAny_mono h (λv s' x=>by obtain ⟨m',hp',r,le,q⟩:=x;exact k v s' m' hp' r le q) λ_ _ x=>x.elim
theorem useX {M:Model}{A:Around}{X:Sem Flow}{B s:Shared}{L:Addr}{Q:QX}{E:ET}{W:Flow->Shared->Prop} (h:wpAny M A X (PX B L s.heap Q) E s) (k:∀ v s' af m' hp',Rel B (hp'.set L (.ns m')) s'->ImmLe s.heap s'.heap->FR s'.heap af v->Q af m' hp'->W v s'):wpAny M A X W E s:=
 wpAny_mono h (λv s' x=>by obtain ⟨af,m',hp',r,le,hf,q⟩:=x;exact k v s' af m' hp' r le hf q) λ_ _ x=>x
theorem Zql {M:Model}{A:Around}{X:Sem Unit}{B s:Shared}{L:Addr}{Q:Loc->Hp->Prop}{E E':ET}{W:Unit->Shared->Prop} (hE:∀ e s',E e s'->E' e s') (h:wpAny M A X (PA B L s.heap Q) E s) (k:∀ v s' m' hp',Rel B (hp'.set L (.ns m')) s'->ImmLe s.heap s'.heap->Q m' hp'->W v s'):wpAny M A X W E' s:=
 wpAny_mono h (λv s' x=>by obtain ⟨m',hp',r,le,q⟩:=x;exact k v s' m' hp' r le q) hE
theorem Zo0 {M:Model}{A:Around}{X:Sem Flow}{B s:Shared}{L:Addr}{Q:QX}{E E':ET}{W:Flow->Shared->Prop} (hE:∀ e s',E e s'->E' e s') (h:wpAny M A X (PX B L s.heap Q) E s) (k:∀ v s' af m' hp',Rel B (hp'.set L (.ns m')) s'->ImmLe s.heap s'.heap->FR s'.heap af v->Q af m' hp'->W v s'):wpAny M A X W E' s:=
 wpAny_mono h (λv s' x=>by obtain ⟨af,m',hp',r,le,hf,q⟩:=x;exact k v s' af m' hp' r le hf q) hE
theorem Zqk {M:Model}{A:Around}{X:Sem Bool}{B s:Shared}{L:Addr}{m:Loc}{Q:Bool->Hp->Prop}{E E':ET}{W:Bool->Shared->Prop} (hE:∀ e s',E e s'->E' e s') (h:wpAny M A X (PT B L m s.heap Q) E s) (k:∀ v s' hp',Rel B (hp'.set L (.ns m)) s'->ImmLe s.heap s'.heap->Q v hp'->W v s'):wpAny M A X W E' s:=
 wpAny_mono h (λv s' x=>by obtain ⟨hp',r,le,q⟩:=x;exact k v s' hp' r le q) hE
theorem Zal {Q:QX} (h:Q .next m hp):EXs M A E B env [] m hp Q:=λs r=>wpAny_execs_nil ⟨.next,m,hp,r,.refl _,rfl,h⟩
noncomputable abbrev SEQ (M:Model) (A:Around) (E:ET) (B:Shared) (env:Env) (rest:List Stmt) (Q:QX):AF->Loc->Hp->Prop:=λf m' hp'=>match f with | .next=>EXs M A E B env rest m' hp' Q | f=>Q f m' hp'
theorem Zac {st:Stmt}{rest:List Stmt}{Q:QX}
  (h:EX M A E B env st m hp (SEQ M A E B env rest Q)):EXs M A E B env (st :: rest) m hp Q:=λs r=>by
 refine wpAny_execs_cons (wpAny_mono (h s r) (λf s' x=>?_) λ_ _ x=>x);refine hide λ_ Z=>?_;obtain ⟨af,m',hp',r',le,hf,q⟩:=x;apply Z;clear Z;cases af with
 | next=>cases hf;exact useX (q s' r') λf s'' af m'' hp'' r'' le' hf q=>⟨af,m'',hp'',r'',le.trans le',hf,q⟩
 | brk=>cases hf;exact ⟨.brk,m',hp',r',le,rfl,q⟩
 | cont=>cases hf;exact ⟨.cont,m',hp',r',le,rfl,q⟩
 | ret v=>obtain ⟨u,rfl,hv⟩:=hf;exact ⟨.ret v,m',hp',r',le,⟨u,rfl,hv⟩,q⟩
theorem Zah {i:Int} {k pos}{Q:QV} (h:Q (.int i) hp):EV M A E B env (.Constant (.int i) k pos) m hp Q:=λs r=>
 wpAny_Constant_int ⟨.int i,hp,r.toks _,.refl _,by simp only[VR];exact ⟨_,rfl⟩,h⟩
theorem Zcr {x:PySem.Str} {k pos}{Q:QV} (h:Q (.str x) hp):EV M A E B env (.Constant (.str x) k pos) m hp Q:=λs r=>
 wpAny_Constant_str ⟨.str x,hp,r.toks _,.refl _,by simp only[VR];exact ⟨_,rfl⟩,h⟩
theorem Zch {k pos}{Q:QV} (h:Q .none hp):EV M A E B env (.Constant .none k pos) m hp Q:=λs r=>
 wpAny_Constant_none ⟨.none,hp,r,.refl _,by simp only[VR],h⟩
theorem Zmk {b:Bool} {k pos}{Q:QV} (h:Q (.bool b) hp):EV M A E B env (.Constant (.bool b) k pos) m hp Q:=λs r=>
 wpAny_Constant_bool ⟨.bool b,hp,r,.refl _,by simp only[VR],h⟩
theorem Rel.loc {s:Shared} (r:Rel B (hp.set env.locals (.ns m)) s):∃ mv,s.heap.Ns env.locals mv/\LocR s.heap m mv:=(r.objs _ _ (Hp.ss ..)).2
theorem Zaa {x:PySem.Str} {pos}{v:AV}{Q:QV} (hv:m x=some v) (h:Q v hp) (hk:autoParam (env.scope.kind = .function) rB) (hl:autoParam (env.kindOf x=some .local) rB)
  (hd:(x == ("__debug__" : PySem.Str))=false:=by decide):EV M A E B env (.Name x pos) m hp Q:=λs r=>by
 refine hide λ_ Z=>?_;obtain ⟨mv,hn,hm⟩:=r.loc;obtain ⟨u,hu,hvu⟩:=hm.1 x v hv;apply Z;clear Z;exact wpAny_Name (wpAny_loadName_local hk hl hn hu ⟨v,hp,r,.refl _,hvu,h⟩) hd
theorem EV.use {e:Expr}{Q:QV} (h:EV M A E B env e m hp Q) {s:Shared} (r:Rel B (hp.set env.locals (.ns m)) s) {W:ET}
  (k:∀ v s' av hp',Rel B (hp'.set env.locals (.ns m)) s'->ImmLe s.heap s'.heap->VR s'.heap av v->Q av hp'->W v s'):wpAny M A (eval e env) W E s:=
 useV (h s r) λv s' av hp' r' le hv q=>k v s' av hp' r' le hv q
noncomputable def OP2 (M:Model) (A:Around) (E:ET) (B:Shared) (env:Env) (f:Value->Value->Sem Value) (m:Loc) (a b:AV) (hp:Hp) (Q:QV):Prop:=
 ∀ s u v,Rel B (hp.set env.locals (.ns m)) s->VR s.heap a u->VR s.heap b v->wpAny M A (f u v) (PV B env.locals m s.heap Q) E s
noncomputable abbrev Zil (M:Model) (A:Around) (E:ET) (B:Shared) (env:Env) (m:Loc) (r:Expr) (op:Operator) (Q:QV):AV->Hp->Prop:=λa hpY=>EV M A E B env r m hpY λb hp₂=>OP2 M A E B env (binaryOp op) m a b hp₂ Q
theorem Zad {l r:Expr}{op:Operator} {pos}{Q:QV}
  (h:EV M A E B env l m hp (Zil M A E B env m r op Q)):EV M A E B env (.BinOp l op r pos) m hp Q:=λs rel=>by
 refine wpAny_BinOp (h.use rel λu sY a hpY rY leY hu hY=>hY.use rY λv s₂ b hp₂ r₂ le₂ hv h₂=>?_);exact useV (h₂ s₂ u v r₂ (hu.mono le₂) hv) λW0 s' av hp' r' le hw q=>⟨av,hp',r',(leY.trans le₂).trans le,hw,q⟩
noncomputable abbrev Zfa (M:Model) (A:Around) (E:ET) (B:Shared) (env:Env) (m:Loc) (r:Expr) (op:CmpOp) (Q:QV):AV->Hp->Prop:=λa hpY=>EV M A E B env r m hpY λb hp₂=>OP2 M A E B env (compareOp op) m a b hp₂ Q
theorem Zcs {l r:Expr}{op:CmpOp} {pos}{Q:QV}
  (h:EV M A E B env l m hp (Zfa M A E B env m r op Q)) (hm:behindInMarks op r=false:=by with_unfolding_all rfl):EV M A E B env (.Compare l [op] [r] pos) m hp Q:=λs rel=>by
 refine wpAny_Compare1 (h.use rel λu sY a hpY rY leY hu hY=>hY.use rY λv s₂ b hp₂ r₂ le₂ hv h₂=>?_) hm;exact useV (h₂ s₂ u v r₂ (hu.mono le₂) hv) λW0 s' av hp' r' le hw q=>⟨av,hp',r',(leY.trans le₂).trans le,hw,q⟩
noncomputable def TRU (M:Model) (A:Around) (E:ET) (B:Shared) (env:Env) (m:Loc) (a:AV) (hp:Hp) (Q:Bool->Hp->Prop):Prop:=
 ∀ s u,Rel B (hp.set env.locals (.ns m)) s->VR s.heap a u->wpAny M A (truthy u) (PT B env.locals m s.heap Q) E s
noncomputable abbrev Zeb (M:Model) (A:Around) (E:ET) (B:Shared) (env:Env) (m:Loc) (r:Expr) (op:CmpOp) (Q:Bool->Hp->Prop):AV->Hp->Prop:=λa hpY=>EV M A E B env r m hpY λb hp₂=>OP2 M A E B env (compareOp op) m a b hp₂ λc hp₃=>TRU M A E B env m c hp₃ Q
theorem Zaf {l r:Expr}{op:CmpOp} {pos}{Q:Bool->Hp->Prop}
  (h:EV M A E B env l m hp (Zeb M A E B env m r op Q)) (hm:behindInMarks op r=false:=by with_unfolding_all rfl) :
  TST M A E B env (.Compare l [op] [r] pos) m hp Q:=λs rel=>by
 refine wpAny_isTrue_Compare1 (h.use rel λu sY a hpY rY leY hu hY=>hY.use rY λv s₂ b hp₂ r₂ le₂ hv h₂=>?_) hm;refine useV (h₂ s₂ u v r₂ (hu.mono le₂) hv) λW0 s' av hp' r' le hw q=>?_;exact useT (q s' W0 r' hw) λb s'' hp'' r'' le' q=>⟨hp'',r'',((leY.trans le₂).trans le).trans le',q⟩
theorem Zaj {b:Bool}{Q:Bool->Hp->Prop} (h:Q b hp):TRU M A E B env m (.bool b) hp Q:=λs u r hu=>by simp only[VR]at hu;subst hu;exact wpAny_truthy_bool ⟨hp,r,.refl _,h⟩
theorem Zcf {test:Expr}{body orelse:List Stmt} {pos}{Q:QX}
  (h:TST M A E B env test m hp λb hp'=>if b then EXs M A E B env body m hp' Q else EXs M A E B env orelse m hp' Q):EX M A E B env (.If test body orelse pos) m hp Q:=λs r=>by
 refine wpAny_If (useT (h s r) λb s' hp' r' le q=>?_);cases b
 .exact useX (q s' r') λf s'' af m'' hp'' r'' le' hf q=>⟨af,m'',hp'',r'',le.trans le',hf,q⟩
 .exact useX (q s' r') λf s'' af m'' hp'' r'' le' hf q=>⟨af,m'',hp'',r'',le.trans le',hf,q⟩
noncomputable def upd (m:Loc) (x:PySem.Str) (v:AV):Loc:=λy=>if y=x then some v else m y
theorem LocR.upd {h:Heap}{mv:PySem.Str->Option Value} (x:LocR h m mv) {y:PySem.Str}{v:AV}{u:Value} (hv:VR h v u):LocR h (Mine.upd m y v) (λz=>if z=y then some u else mv z):=⟨λz W0 e=>by
 by_cases hz:z=y
 .simp only [Mine.upd,hz,if_true,Option.some.injEq]at e ⊢;subst e;exact ⟨u,rfl,hv⟩
 .simp only [Mine.upd,hz,if_false]at e ⊢;exact x.1 z W0 e,λz e=>by
 by_cases hz:z=y
 .simp [Mine.upd,hz]at e
 .simp only [Mine.upd,hz,if_false]at e ⊢;exact x.2 z e⟩
theorem Zbm {x:PySem.Str}{v:AV}{u:Value}{s:Shared}{W:Unit->Shared->Prop} (r:Rel B (hp.set env.locals (.ns m)) s) (hv:VR s.heap v u)
  (k:∀ s',Rel B (hp.set env.locals (.ns (upd m x v))) s'->ImmLe s.heap s'.heap->W () s') (hl:autoParam (env.kindOf x=some .local) rB)
  (hp':autoParam ((env.scope.kind == .class || (env.scope.kind == .module && env.locals != env.globals))=false) rB):wpAny M A (storeName env x u) W E s:=by
 obtain ⟨mv,hn,hm⟩:=r.loc;refine wpAny_storeName_local hl hn (λh' hn' hs=>?_) hp';have t:=r.turn (Hp.ss ..) hs (.ns (upd m x v)) (λle=>⟨_,hn',LocR.upd (hm.mono le) (hv.mono le)⟩) (s.toks + 1);rw[Hp.set_set]at t;exact k _ t.1 t.2
theorem Zaq {x:PySem.Str}{value:Expr} {pos pos'}{Q:QX} (h:EV M A E B env value m hp λv hp'=>Q .next (upd m x v) hp')
  (hl:autoParam (env.kindOf x=some .local) rB) (hs:autoParam (swapsWith value (some (.Name x pos')) pos.line env=pure false) rB)
  (hk:autoParam ((env.scope.kind == .class || (env.scope.kind == .module && env.locals != env.globals))=false) rB):EX M A E B env (.Assign [.Name x pos'] value pos) m hp Q:=λs r=>
 wpAny_Assign_Name (h.use r λu sY v hpY rY leY hu q=>Zbm rY hu (λs' r' le=>⟨.next,_,hpY,r',leY.trans le,rfl,q⟩) hl hk) hs
theorem Zbd {x:PySem.Str}{op:Operator}{value:Expr} {pos pos'}{v:AV}{Q:QX} (hv:m x=some v)
  (h:EV M A E B env value m hp λW0 hp'=>OP2 M A E B env (inplaceOp op) m v W0 hp' λr hp''=>Q .next (upd m x r) hp'')
  (hl:autoParam (env.kindOf x=some .local) rB) (hf:autoParam (env.scope.kind = .function) rB)
  (hk:autoParam ((env.scope.kind == .class || (env.scope.kind == .module && env.locals != env.globals))=false) rB):EX M A E B env (.AugAssign (.Name x pos') op value pos) m hp Q:=λs r=>by
 refine hide λ_ Z=>?_;obtain ⟨mv,hn,hm⟩:=r.loc;obtain ⟨u,hu,hvu⟩:=hm.1 x v hv;apply Z;clear Z;refine wpAny_AugAssign_Name (wpAny_loadName_local hf hl hn hu (h.use r λW0 sY b hpY rY leY hw hY=>?_));refine useV (hY sY u W0 rY (hvu.mono leY) hw) λz s₂ av hp₂ r₂ le₂ hz q=>?_;exact Zbm r₂ hz (λs' r' le=>⟨.next,_,hp₂,r',(leY.trans le₂).trans le,rfl,q⟩) hl hk
noncomputable abbrev Zg1 (m:Loc) (Q:QX):AV->Hp->Prop:=λv hp'=>Q (.ret v) m hp'
theorem Zau {e:Expr} {pos}{Q:QX} (h:EV M A E B env e m hp (Zg1 m Q)):EX M A E B env (.Return (some e) pos) m hp Q:=λs r=>
 wpAny_Return_some (h.use r λu sY v hpY rY leY hu q=>⟨.ret v,m,hpY,rY,leY,⟨u,rfl,hu⟩,q⟩)
theorem Zmi {pos}{Q:QX} (h:Q .brk m hp):EX M A E B env (.Break pos) m hp Q:=λs r=>wpAny_Break ⟨.brk,m,hp,r,.refl _,rfl,h⟩
theorem Zg4 {pos}{Q:QX} (h:Q .cont m hp):EX M A E B env (.Continue pos) m hp Q:=λs r=>wpAny_Continue ⟨.cont,m,hp,r,.refl _,rfl,h⟩
end
variable {A:Around}{E:ET}{B:Shared}{env:Env}{m:Loc}{hp:Hp}
section
theorem VR_int {h:Heap}{i:Int}{t:Tok}:VR h (.int i) (.int i t):=by simp only[VR];exact ⟨t,rfl⟩
theorem VR_bool {h:Heap}{b:Bool}:VR h (.bool b) (.bool b):=by simp only[VR]
theorem Zc8 {h:Heap}:VR h .none .none:=by simp only[VR]
theorem VR_ref {h:Heap}{a:Addr}:VR h (.ref a) (.ref a):=by simp only[VR]
theorem Zap {a b:Int}{Q:QV} (h:Q (.int (a + b)) hp):OP2 (model PW W0) A E B env (binaryOp .Add) m (.int a) (.int b) hp Q:=λs u v r hu hv=>by simp only[VR]at hu hv;obtain ⟨t,rfl⟩:=hu;obtain ⟨t',rfl⟩:=hv;exact PyProof.Rows.add_int ⟨_,hp,r.toks _,.refl _,VR_int,h⟩
theorem Za6 {a b:Int}{Q:QV} (h:Q (.int (a - b)) hp):OP2 (model PW W0) A E B env (binaryOp .Sub) m (.int a) (.int b) hp Q:=λs u v r hu hv=>by simp only[VR]at hu hv;obtain ⟨t,rfl⟩:=hu;obtain ⟨t',rfl⟩:=hv;exact PyProof.Rows.sub_int ⟨_,hp,r.toks _,.refl _,VR_int,h⟩
theorem Zcz {a b:Int}{Q:QV} (hb:b≠0) (h:Q (.int (a.fmod b)) hp):OP2 (model PW W0) A E B env (binaryOp .Mod) m (.int a) (.int b) hp Q:=λs u v r hu hv=>by simp only[VR]at hu hv;obtain ⟨t,rfl⟩:=hu;obtain ⟨t',rfl⟩:=hv;exact PyProof.Rows.mod_int hb ⟨_,hp,r.toks _,.refl _,VR_int,h⟩
theorem Ze7 {a b:Int}{Q:QV} (h:Q (.int (a + b)) hp):OP2 (model PW W0) A E B env (inplaceOp .Add) m (.int a) (.int b) hp Q:=λs u v r hu hv=>by simp only[VR]at hu hv;obtain ⟨t,rfl⟩:=hu;obtain ⟨t',rfl⟩:=hv;exact PyProof.Rows.iadd_int ⟨_,hp,r.toks _,.refl _,VR_int,h⟩
theorem Zea {a b:Int}{Q:QV} (h:Q (.bool (decide (a < b))) hp):OP2 (model PW W0) A E B env (compareOp .Lt) m (.int a) (.int b) hp Q:=λs u v r hu hv=>by simp only[VR]at hu hv;obtain ⟨t,rfl⟩:=hu;obtain ⟨t',rfl⟩:=hv;exact PyProof.Rows.lt_int ⟨_,hp,r,.refl _,VR_bool,h⟩
theorem Zic {a b:Int}{Q:QV} (h:Q (.bool (decide (b < a))) hp):OP2 (model PW W0) A E B env (compareOp .Gt) m (.int a) (.int b) hp Q:=λs u v r hu hv=>by simp only[VR]at hu hv;obtain ⟨t,rfl⟩:=hu;obtain ⟨t',rfl⟩:=hv;exact PyProof.Rows.gt_int ⟨_,hp,r,.refl _,VR_bool,h⟩
theorem Zkl {a b:Int}{Q:QV} (h:Q (.bool (decide (a>=b))) hp):OP2 (model PW W0) A E B env (compareOp .GtE) m (.int a) (.int b) hp Q:=λs u v r hu hv=>by simp only[VR]at hu hv;obtain ⟨t,rfl⟩:=hu;obtain ⟨t',rfl⟩:=hv;exact PyProof.Rows.ge_int ⟨_,hp,r,.refl _,VR_bool,h⟩
theorem Ze8 {a b:Int}{Q:QV} (h:Q (.bool (a == b)) hp):OP2 (model PW W0) A E B env (compareOp .Eq) m (.int a) (.int b) hp Q:=λs u v r hu hv=>by simp only[VR]at hu hv;obtain ⟨t,rfl⟩:=hu;obtain ⟨t',rfl⟩:=hv;exact PyProof.Rows.eq_int ⟨_,hp,r,.refl _,VR_bool,h⟩
theorem Zp6 {a b:PySem.Str}{Q:QV} (h:Q (.bool (a != b)) hp):OP2 (model PW W0) A E B env (compareOp .NotEq) m (.str a) (.str b) hp Q:=λs u v r hu hv=>by simp only[VR]at hu hv;obtain ⟨t,rfl⟩:=hu;obtain ⟨t',rfl⟩:=hv;exact PyProof.Rows.ne_str ⟨_,hp,r,.refl _,VR_bool,h⟩
noncomputable def AV.isNone:AV->Bool
 | .none=>true
 | _=>false
theorem VR.isNone {h:Heap}:∀ {a:AV}{u:Value},VR h a u->(u == Value.none)=a.isNone
 | .none,_,e=>by simp only[VR]at e;subst e;rfl
 | .bool _,_,e=>by simp only[VR]at e;subst e;rfl
 | .int _,_,e=>by simp only[VR]at e;obtain ⟨_,rfl⟩:=e;rfl
 | .str _,_,e=>by simp only[VR]at e;obtain ⟨_,rfl⟩:=e;rfl
 | .flt _,_,e=>by simp only[VR]at e;obtain ⟨_,rfl⟩:=e;rfl
 | .ref _,_,e=>by simp only[VR]at e;subst e;rfl
 | .ty _,_,e=>by simp only[VR]at e;subst e;rfl
 | .bi _,_,e=>by simp only[VR]at e;subst e;rfl
 | .tup _,_,e=>by simp only[VR]at e;obtain ⟨_,_,rfl,_⟩:=e;rfl
 | .mat _,_,e=>by simp only[VR]at e;obtain ⟨_,_,rfl,_⟩:=e;rfl
theorem Zce {a:AV}{Q:QV} (h:Q (.bool a.isNone) hp):OP2 (model PW W0) A E B env (compareOp .Is) m a .none hp Q:=λs u v r hu hv=>by simp only[VR]at hv;subst hv;exact is_none ⟨_,hp,r,.refl _,by rw[hu.isNone];exact VR_bool,h⟩
noncomputable abbrev Zg0 (PW:Program) (W0:World) (A:Around) (E:ET) (B:Shared) (env:Env) (m:Loc) (Q:Bool->Hp->Prop):AV->Hp->Prop:=λv hp'=>TRU (model PW W0) A E B env m v hp' Q
theorem Za3 {e:Expr}{Q:Bool->Hp->Prop} (h:EV (model PW W0) A E B env e m hp (Zg0 PW W0 A E B env m Q))
  (he:autoParam (isTrue e env (eval e env)=(do let v <-eval e env;standAt e.pos;holding [v] (truthy v))) rB):TST (model PW W0) A E B env e m hp Q:=λs r=>by
 refine wpAny_isTrue_value (h.use r λu sY v hpY rY leY hu q=>?_) he;exact useT (q sY u rY hu) λb s'' hp'' r'' le' q=>mkT r'' (leY.trans le') q
theorem Zgx {x:Expr} {pos}{Q:Bool->Hp->Prop} (h:TST (model PW W0) A E B env x m hp (λb hp'=>Q (!b) hp')):TST (model PW W0) A E B env (.UnaryOp .Not x pos) m hp Q:=λs r=>
 wpAny_isTrue_Not (useT (h s r) λ_ _ hp' r' le q=>⟨hp',r',le,q⟩)
noncomputable def ALLT (M:Model) (A:Around) (E:ET) (B:Shared) (env:Env) (op:BoolOp) (es:List Expr) (m:Loc) (hp:Hp) (Q:Bool->Hp->Prop):Prop:=
 ∀ s,Rel B (hp.set env.locals (.ns m)) s->wpAny M A (allTrue op es env) (PT B env.locals m s.heap Q) E s
theorem Zaw {op:BoolOp}{es:List Expr} {pos}{Q:Bool->Hp->Prop} (h:ALLT (model PW W0) A E B env op es m hp Q):TST (model PW W0) A E B env (.BoolOp op es pos) m hp Q:=λs r=>wpAny_isTrue_BoolOp (h s r)
theorem Za0 {Q:Bool->Hp->Prop} (h:Q true hp):ALLT (model PW W0) A E B env .And [] m hp Q:=λs r=>wpAny_allTrue_And_nil ⟨hp,r,.refl _,h⟩
theorem Zd5 {Q:Bool->Hp->Prop} (h:Q false hp):ALLT (model PW W0) A E B env .Or [] m hp Q:=λs r=>wpAny_allTrue_Or_nil ⟨hp,r,.refl _,h⟩
theorem Zag {x:Expr}{rest:List Expr}{Q:Bool->Hp->Prop} (h:TST (model PW W0) A E B env x m hp λb hp'=>if b then ALLT (model PW W0) A E B env .And rest m hp' Q else Q false hp') :
  ALLT (model PW W0) A E B env .And (x :: rest) m hp Q:=λs r=>by
 refine wpAny_allTrue_And_cons (useT (h s r) λb s' hp' r' le q=>?_);cases b
 .exact mkT r' le q
 .exact useT (q s' r') λb s'' hp'' r'' le' q=>mkT r'' (le.trans le') q
theorem Zby {x:Expr}{rest:List Expr}{Q:Bool->Hp->Prop} (h:TST (model PW W0) A E B env x m hp λb hp'=>if b then Q true hp' else ALLT (model PW W0) A E B env .Or rest m hp' Q) :
  ALLT (model PW W0) A E B env .Or (x :: rest) m hp Q:=λs r=>by
 refine wpAny_allTrue_Or_cons (useT (h s r) λb s' hp' r' le q=>?_);cases b
 .exact useT (q s' r') λb s'' hp'' r'' le' q=>mkT r'' (le.trans le') q
 .exact mkT r' le q
theorem Rel.at {s:Shared} (r:Rel B (hp.set env.locals (.ns m)) s) {a:Addr}{o:AO} (ha:hp a=some o) (hL:a≠env.locals):OR s.heap a o:=(r.objs a o (Hp.snt hL ha)).2
end
section
noncomputable def EVS (M:Model) (A:Around) (E:ET) (B:Shared) (env:Env) (es:List Expr) (m:Loc) (hp:Hp) (Q:List AV->Hp->Prop):Prop:=
 ∀ (pos:Pos) s,Rel B (hp.set env.locals (.ns m)) s->wpAny M A (spliced (backTo pos (starEach es env))) (PVs B env.locals m s.heap Q) E s
theorem Zae {Q:List AV->Hp->Prop} (h:Q [] hp):EVS (model PW W0) A E B env [] m hp Q:=λ_ s r=>wpAny_items_nil ⟨[],hp,r,.refl _,by simp only[VRs],h⟩
noncomputable abbrev Zim (PW:Program) (W0:World) (A:Around) (E:ET) (B:Shared) (env:Env) (m:Loc) (rest:List Expr) (Q:List AV->Hp->Prop):AV->Hp->Prop:=λv hp'=>EVS (model PW W0) A E B env rest m hp' λvs hp''=>Q (v :: vs) hp''
theorem Zab {e:Expr}{rest:List Expr}{Q:List AV->Hp->Prop} (h:EV (model PW W0) A E B env e m hp (Zim PW W0 A E B env m rest Q))
  (he:autoParam (starEach (e :: rest) env=(false,eval e env) :: starEach rest env) rB):EVS (model PW W0) A E B env (e :: rest) m hp Q:=λpos s r=>by
 refine wpAny_items_cons (h.use r λu sY v hpY rY leY hu q=>?_) he;refine Zcu (q pos sY rY) λvs s₂ avs hp₂ r₂ le₂ hv q=>?_;exact ⟨v :: avs,hp₂,r₂,leY.trans le₂,by simp only[VRs];exact ⟨u,vs,rfl,hu.mono le₂,hv⟩,q⟩
theorem Rel.newAt {s:Shared} (r:Rel B (hp.set env.locals (.ns m)) s) (ob:Obj) (o:AO) (ho:OR (s.heap.push ob) s.heap.objs.size o) :
  Rel B ((hp.set s.heap.objs.size o).set env.locals (.ns m)) { s with heap:=s.heap.push ob }/\hp s.heap.objs.size=none/\s.heap.objs.size≠env.locals/\ImmLe s.heap (s.heap.push ob):=by
 have f:=r.fresh;have hne:s.heap.objs.size≠env.locals:=λe=>by rw[e,Hp.ss]at f;cases f
 refine ⟨?_,Hp.snr hne f,hne,ImmLe.keep λb o'' e=>Heap.get?_push_of_some _ e⟩;have:=r.alloc ob o ho;rw[Hp.sc _ _ _ (Ne.symm hne)]at this;exact this
noncomputable abbrev Zif (Q:QV):List AV->Hp->Prop:=λvs hp'=>vs.length<=sizeLine/\Q (.tup vs) hp'
theorem Zan {es:List Expr} {k pos}{Q:QV} (h:EVS (model PW W0) A E B env es m hp (Zif Q)):EV (model PW W0) A E B env (.Tuple es k pos) m hp Q:=λs r=>by refine wpAny_Tuple (Zcu (h pos s r) λvs sY avs hpY rY leY hv yq=>?_);obtain ⟨hlen,q⟩:=yq;refine ⟨by rw[hv.length];exact hlen,?_⟩;have le:ImmLe sY.heap (sY.heap.push { cls:=.type "tuple",data:=.seq vs.toArray }):=ImmLe.keep λb o'' e=>Heap.get?_push_of_some _ e;exact mkV (av:=.tup avs) (rY.push _) (leY.trans le) (by simp only[VR];exact ⟨_,vs.toArray,rfl,⟨_,Heap.get?_push_size _ rfl,rfl,_,rfl⟩,by simpa using hv.mono le⟩) q
noncomputable abbrev Zkp (env:Env) (Q:QV):List AV->Hp->Prop:=λvs hp'=>vs.length<=sizeLine/\∀ a,hp' a=none->a≠env.locals->Q (.ref a) (hp'.set a (.list vs))
theorem Zbt {es:List Expr} {pos}{Q:QV} (h:EVS (model PW W0) A E B env es m hp (Zkp env Q)) :
  EV (model PW W0) A E B env (.List es pos) m hp Q:=λs r=>by
 refine wpAny_List (Zcu (h pos s r) λvs sY avs hpY rY leY hv yq=>?_);obtain ⟨hlen,q⟩:=yq;refine ⟨by rw[hv.length];exact hlen,?_⟩
 have n:=rY.newAt { cls:=.type "list",data:=.seq vs.toArray } (.list avs) ⟨vs.toArray,0,IsL.new _ _,by
  have le:ImmLe sY.heap (sY.heap.push { cls:=.type "list",data:=.seq vs.toArray }):=ImmLe.keep λb o'' e=>Heap.get?_push_of_some _ e
  simpa using hv.mono le⟩
 exact mkV (av:=.ref _) n.1 (leY.trans n.2.2.2) VR_ref (q _ n.2.1 n.2.2.1)
noncomputable def SUB (M:Model) (A:Around) (E:ET) (B:Shared) (env:Env) (value slice:Expr) (m:Loc) (o i:AV) (hp:Hp) (Q:QV):Prop:=
 ∀ s u v,Rel B (hp.set env.locals (.ns m)) s->VR s.heap o u->VR s.heap i v->wpAny M A (subscriptTail value slice u v) (PV B env.locals m s.heap Q) E s
noncomputable abbrev Zec (PW:Program) (W0:World) (A:Around) (E:ET) (B:Shared) (env:Env) (m:Loc) (value:Expr) (slice:Expr) (Q:QV):AV->Hp->Prop:=λo hpY=>EV (model PW W0) A E B env slice m hpY λi hp₂=>SUB (model PW W0) A E B env value slice m o i hp₂ Q
theorem Zai {value slice:Expr} {pos}{Q:QV}
  (h:EV (model PW W0) A E B env value m hp (Zec PW W0 A E B env m value slice Q)):EV (model PW W0) A E B env (.Subscript value slice pos) m hp Q:=λs rel=>by
 refine Subscript_ (h.use rel λu sY a hpY rY leY hu hY=>hY.use rY λv s₂ b hp₂ r₂ le₂ hv h₂=>?_);exact useV (h₂ s₂ u v r₂ (hu.mono le₂) hv) λW0 s' av hp' r' le hw q=>mkV r' ((leY.trans le₂).trans le) hw q
theorem Zgy {value slice:Expr}{xs:List AV}{k:Int}{j:Nat}{x:AV}{Q:QV} (hlo : -(2 ^ 63)<=k) (hhi:k < 2 ^ 63) (hj:seqIndex? k xs.length=some j) (hx:xs[j]?=some x) (h:Q x hp)
  (hs:∀ t u,subscripted slice false (.ref t) (.int k u)=operate [.ref t,.int k u] (getItem (.ref t) (.int k u)):=by intro _ _;with_unfolding_all rfl) :
  SUB (model PW W0) A E B env value slice m (.tup xs) (.int k) hp Q:=λs u v r hu hv=>by
 refine hide λ_ Z=>?_;simp only[VR]at hu hv;obtain ⟨t,rfl⟩:=hv;obtain ⟨a,vs,rfl,ht,hvs⟩:=hu;obtain ⟨y,hy,hxy⟩:=hvs.get hx;apply Z;clear Z;exact item_tupleT (l:=vs.toList) (by simpa using ht) hlo hhi (by rw[hvs.length];exact hj) hy ⟨x,hp,r,.refl _,hxy,h⟩ (hs _ _)
noncomputable def Lst (B:Shared) (hp:Hp) (L a:Addr) (xs:List AV):Prop:=(hp a=some (.list xs)/\a≠L)\/∃ vs,B.heap.IsList a vs/\VRs B.heap xs vs.toList
theorem Lst.own {B:Shared}{hp:Hp}{L a:Addr}{xs:List AV} (h:hp a=some (.list xs)) (hL:a≠L):Lst B hp L a xs:=.inl ⟨h,hL⟩
theorem Rel.lst {s:Shared} (r:Rel B (hp.set env.locals (.ns m)) s) {a:Addr}{xs:List AV} (h:Lst B hp env.locals a xs):∃ vs,s.heap.IsList a vs/\VRs s.heap xs vs.toList:=by
 rcases h with ⟨ha,hL⟩ | ⟨vs,hl,hv⟩
 .obtain ⟨vs,n,hl,hv⟩:=r.at ha hL;exact ⟨vs,hl.isList,hv⟩
 .obtain ⟨o,ho,rest⟩:=hl;exact ⟨vs,⟨o,r.keep _ _ ho,rest⟩,hv.mono (ImmLe.keep r.keep)⟩
theorem Zar {value slice:Expr}{a:Addr}{xs:List AV}{k:Int}{x:AV}{Q:QV} (hl:Lst B hp env.locals a xs) (h0 : 0<=k) (hhi:k < 2 ^ 63) (hx:xs[k.toNat]?=some x) (h:Q x hp)
  (hs:∀ u,subscripted slice false (.ref a) (.int k u)=operate [.ref a,.int k u] (getItem (.ref a) (.int k u)):=by intro _;with_unfolding_all rfl) :
  SUB (model PW W0) A E B env value slice m (.ref a) (.int k) hp Q:=λs u v r hu hv=>by
 simp only[VR]at hu hv;obtain ⟨t,rfl⟩:=hv;subst hu;obtain ⟨vs,hl,hvs⟩:=r.lst hl;obtain ⟨y,hy,hxy⟩:=hvs.get hx;exact tail_any hl.typeIs slot_list_getitem.lookup (wpAny_getItem_list hl h0 hhi (by simpa using hy) ⟨x,hp,r,.refl _,hxy,h⟩) (hs _)
noncomputable def optE (M:Model) (A:Around) (E:ET) (B:Shared) (env:Env) (e:Option Expr) (m:Loc) (hp:Hp) (Q:QV):Prop:=match e with | some e=>EV M A E B env e m hp Q | none=>Q .none hp
theorem optE.use {e:Option Expr}{Q:QV} (h:optE (model PW W0) A E B env e m hp Q) {s:Shared} (r:Rel B (hp.set env.locals (.ns m)) s) {W:ET}
  (k:∀ v s' av hp',Rel B (hp'.set env.locals (.ns m)) s'->ImmLe s.heap s'.heap->VR s'.heap av v->Q av hp'->W v s'):wpAny (model PW W0) A (evalPart e env) W E s:=by
 cases e with
 | none=>exact wP (k _ _ .none hp r (.refl _) Zc8 h)
 | some e=>exact EV.use h r k
noncomputable def Zfk:AV->Option (Option Int)
 | .none=>some none
 | .int i=>some (some i)
 | _=>none
theorem VR.part {h:Heap}{a:AV}{v:Value}{k:Option Int} (hv:VR h a v) (e:Zfk a=some k):IsPart v k:=by
 cases a with
 | none=>cases (show some none=some k from e);simp only[VR]at hv;subst hv;exact .none
 | int i=>cases (show some (some i)=some k from e);simp only[VR]at hv;obtain ⟨t,rfl⟩:=hv;exact .int ..
 | _=>cases (show (none:Option (Option Int))=some k from e)
noncomputable def pick {α:Type} (xs:List α) (lo hi:Option Int):List α:=(xs.drop (lo.elim 0 (clipAt xs.length))).take (hi.elim xs.length (clipAt xs.length) - lo.elim 0 (clipAt xs.length))
end
open PySem PySem.W PyProof.Rows PySem.Calls
structure Gnd (K:Frag) (B:Shared):Prop where
 X:K.In B.heap
 top:∃ mg mb,B.heap.Ns mainGlobals mg/\B.heap.Ns builtinsNs mb/\∀ x:PySem.Str,x ≠ "__name__" -> mb x=bootBuiltins x
 lim:B.heap.NoLimit
 sys:∃ o,B.heap.get? sysModules=some o
section
variable {K:Frag}
theorem Zdd (G:Gnd K B) {x:PySem.Str} {pos}{v:Value}{av:AV}{Q:QV} (e:nsIn K mainGlobals x=some (some v)) (hv:∀ h,VR h av v) (h:Q av hp)
  (hk:autoParam (env.scope.kind = .function) rB) (hx:autoParam (env.kindOf x=some .globalImplicit) rB) (hg:autoParam (env.globals=mainGlobals) rB) (hd:(x == ("__debug__" : PySem.Str))=false:=by decide) :
  EV (model PW W0) A E B env (.Name x pos) m hp Q:=λs r=>by
 refine hide λ_ Z=>?_;obtain ⟨mg,mb,g,b,bb⟩:=G.top;apply Z;clear Z;exact Name_function_global hk hx (loadGlobal_global (hg ▸ g.keeps r.keep) (mg_of G.X g e) ⟨av,hp,r,.refl _,hv _,h⟩) hd
theorem Zat (G:Gnd K B) {x:PySem.Str} {pos}{v:Value}{av:AV}{Q:QV} (e:nsIn K mainGlobals x=some none) (hb:bootBuiltins x=some v) (hn:x ≠ "__name__") (hv:∀ h,VR h av v) (h:Q av hp)
  (hk:autoParam (env.scope.kind = .function) rB) (hx:autoParam (env.kindOf x=some .globalImplicit) rB) (hg:autoParam (env.globals=mainGlobals) rB) (hbl:autoParam (env.builtins=builtinsNs) rB) (hd:(x == ("__debug__" : PySem.Str))=false:=by decide) :
  EV (model PW W0) A E B env (.Name x pos) m hp Q:=λs r=>by
 refine hide λ_ Z=>?_;obtain ⟨mg,mb,g,b,bb⟩:=G.top;apply Z;clear Z;exact Name_function_global hk hx (loadGlobal_builtin (hg ▸ g.keeps r.keep) (mg_none_of G.X g e) (hbl ▸ b.keeps r.keep) ((bb x hn).trans hb) ⟨av,hp,r,.refl _,hv _,h⟩) hd
theorem Zbi {h:Heap}{n:String}:VR h (.bi n) (.builtin n):=by simp only[VR]
theorem Zc7 {h:Heap}{n:String}:VR h (.ty n) (.type n):=by simp only[VR]
noncomputable def CL (M:Model) (A:Around) (E:ET) (B:Shared) (env:Env) (f:Value) (m:Loc) (avs:List AV) (hp:Hp) (Q:QV):Prop:=
 ∀ s vs,Rel B (hp.set env.locals (.ns m)) s->VRs s.heap avs vs->wpAny M A (call f vs) (PV B env.locals m s.heap Q) E s
noncomputable abbrev Zik (PW:Program) (W0:World) (A:Around) (E:ET) (B:Shared) (env:Env) (m:Loc) (e:Expr) (rest:List Expr) (id:String) (Q:QV):AV->Hp->Prop:=λf hpY=>f = .bi id/\EVS (model PW W0) A E B env (e :: rest) m hpY λvs hp₂=>CL (model PW W0) A E B env (.builtin id) m vs hp₂ Q
theorem Zao {func e:Expr}{rest:List Expr} {pos}{id:String}{Q:QV}
  (h:EV (model PW W0) A E B env func m hp (Zik PW W0 A E B env m e rest id Q))
  (hc:autoParam (eval (.Call func (e :: rest) [] pos) env=(do callWith pos (<-eval func env) [] (backTo pos (starEach (e :: rest) env)) (backToKw pos (keywordEach [] env)))) rB)
  (he:autoParam (starEach (e :: rest) env=(false,eval e env) :: starEach rest env) rB) (hplain:autoParam ((backTo pos (starEach rest env)).any (·.1)=false) rB) :
  EV (model PW W0) A E B env (.Call func (e :: rest) [] pos) m hp Q:=λs r=>by
 refine Call_ (h.use r λu sY f hpY rY leY hu yq=>?_) hc;obtain ⟨hf,q⟩:=yq;subst hf;simp only[VR]at hu;subst hu;refine callWith_builtin1 (Zcu (q pos sY rY) λvs s₂ avs hp₂ r₂ le₂ hv q=>?_) he hplain;exact useV (q s₂ vs r₂ hv) λv s₃ av hp₃ r₃ le₃ hv q=>mkV r₃ ((leY.trans le₂).trans le₃) hv q
theorem Zb6 {h:Heap}{a:AV}{vs:List Value} (x:VRs h [a] vs):∃ v,vs=[v]/\VR h a v:=by simp only[VRs]at x;obtain ⟨v,r,rfl,h1,rfl⟩:=x;exact ⟨v,rfl,h1⟩
theorem Zbs {h:Heap}{a b:AV}{vs:List Value} (x:VRs h [a,b] vs):∃ v u,vs=[v,u]/\VR h a v/\VR h b u:=by simp only[VRs]at x;obtain ⟨v,r,rfl,h1,u,r',rfl,h2,rfl⟩:=x;exact ⟨v,u,rfl,h1,h2⟩
theorem Zbe {a:Addr}{xs:List AV}{Q:QV} (hl:Lst B hp env.locals a xs) (hsz:xs.length<=sizeLine) (h:Q (.int xs.length) hp):CL (model PW W0) A E B env (.builtin "len") m [.ref a] hp Q:=λs vs r hv=>by
 obtain ⟨v,rfl,h1⟩:=Zb6 hv;simp only[VR]at h1;subst h1;obtain ⟨us,hl,hu⟩:=r.lst hl;have e:us.size=xs.length:=by rw[<-Array.length_toList];exact hu.length
 exact len_list hl (by rw[e];have:=sizeLine_eq;lia) ⟨_,hp,r.toks _,.refl _,by rw[e];exact VR_int,h⟩
noncomputable abbrev Zij (PW:Program) (W0:World) (A:Around) (E:ET) (B:Shared) (env:Env) (m:Loc) (e:Expr) (rest:List Expr) (f:Addr) (Q:QV):AV->Hp->Prop:=λv hpY=>v = .ref f/\EVS (model PW W0) A E B env (e :: rest) m hpY λvs hp₂=>CL (model PW W0) A E B env (.ref f) m vs hp₂ Q
theorem Zdp {func e:Expr}{rest:List Expr} {pos}{f:Addr}{o:Obj}{fd:FuncData}{Q:QV} (G:Gnd K B) (ho:K.lookup f=some o) (hd:o.data = .func fd)
  (h:EV (model PW W0) A E B env func m hp (Zij PW W0 A E B env m e rest f Q))
  (hc:autoParam (eval (.Call func (e :: rest) [] pos) env=(do callWith pos (<-eval func env) [] (backTo pos (starEach (e :: rest) env)) (backToKw pos (keywordEach [] env)))) rB)
  (he:autoParam (starEach (e :: rest) env=(false,eval e env) :: starEach rest env) rB) :
  EV (model PW W0) A E B env (.Call func (e :: rest) [] pos) m hp Q:=λs r=>by
 refine Call_ (h.use r λu sY v hpY rY leY hu yq=>?_) hc;obtain ⟨hf,q⟩:=yq;subst hf;simp only[VR]at hu;subst hu;refine callWith_def hd (Zcu (q pos sY rY) λvs s₂ avs hp₂ r₂ le₂ hv q=>?_) he;exact ⟨r₂.keep _ _ (G.X _ _ ho),useV (q s₂ vs r₂ hv) λv s₃ av hp₃ r₃ le₃ hv q=>mkV r₃ ((leY.trans le₂).trans le₃) hv q⟩
noncomputable def locOf:List (PySem.Str × AV)->Loc
 | []=>λ_=>none
 | (x,v) :: r=>λy=>if y=x then some v else locOf r y
theorem Zgp {h:Heap}:∀ {bs:List (PySem.Str × AV)}{us:List (PySem.Str × Value)},us.map (·.1)=bs.map (·.1)->VRs h (bs.map (·.2)) (us.map (·.2))->LocR h (locOf bs) (λx=>us.lookup x):=by
 intro r_
 induction r_ with
 | nil=>
  intro us e hv;refine ⟨λx v hx=>by simp[locOf]at hx,λx _=>?_⟩;cases us with
  | nil=>rfl
  | cons _ _=>simp at e
 | cons kv_ bs ih=>
  obtain ⟨y,v⟩:=kv_;intro us e hv;cases us with
  | nil=>simp at e
  | cons u us=>
   obtain ⟨z,u⟩:=u;simp only[List.map_cons,List.cons.injEq]at e;simp only[List.map_cons,VRs,List.cons.injEq]at hv;obtain ⟨_,_,⟨rfl,rfl⟩,h1,h2⟩:=hv;obtain ⟨rfl,e2⟩:=e;refine ⟨λx x' hx=>?_,λx hx=>?_⟩
   .simp only [locOf]at hx;by_cases hz:x=z
    .subst hz;simp only[if_true,Option.some.injEq]at hx;subst hx;exact ⟨u,by simp[List.lookup],h1⟩
    .simp only [hz,if_false]at hx;obtain ⟨u',hu',hv'⟩:=(ih e2 h2).1 x x' hx;exact ⟨u',by simp only[List.lookup];rw[beq_eq_false_iff_ne.mpr hz];exact hu',hv'⟩
   .simp only [locOf]at hx;by_cases hz:x=z
    .simp [hz]at hx
    .simp only [hz,if_false]at hx;have:=(ih e2 h2).2 x hx;simp only[List.lookup];rw[beq_eq_false_iff_ne.mpr hz];exact this
noncomputable def Zd6:AF->AV
 | .ret v=>v
 | _=>.none
theorem Zg8 {h:Heap}{fl:Flow}:∀ {af:AF},FR h af fl->VR h (Zd6 af) (match fl with | .ret v=>v | _=>.none)
 | .next,e=>by cases e;exact Zc8
 | .brk,e=>by cases e;exact Zc8
 | .cont,e=>by cases e;exact Zc8
 | .ret v,⟨u,e,hu⟩=>by subst e;exact hu
noncomputable def CD (M:Model) (A:Around) (E:ET) (B:Shared) (env:Env) (f:Value) (m:Loc) (avs:List AV) (hp:Hp) (Q:QV):Prop:=
 ∀ s vs,Rel B (hp.set env.locals (.ns m)) s->VRs s.heap avs vs->codeAny M A (.call f ⟨vs,[]⟩)
  (λr s'=>match r with | .ok (.ret v)=>PV B env.locals m s.heap Q v s' | .ok _=>False | .error e=>E e s') s
theorem CD.cl {M:Model}{f:Value}{avs:List AV}{Q:QV} (h:CD M A E B env f m avs hp Q):CL M A E B env f m avs hp Q:=λs vs r hv=>wpAny_call (h s vs r hv)
noncomputable def CD2 (M:Model) (A:Around) (E:ET) (B B₂:Shared) (env:Env) (f:Value) (m:Loc) (avs:List AV) (hp:Hp) (Q:QV):Prop:=
 ∀ s vs,Rel B (hp.set env.locals (.ns m)) s->VRs s.heap avs vs->codeAny M A (.call f ⟨vs,[]⟩)
  (λr s'=>match r with | .ok (.ret v)=>PV B₂ env.locals m s.heap Q v s' | .ok _=>False | .error e=>E e s') s
noncomputable def EXs2 (M:Model) (A:Around) (E:ET) (B B₂:Shared) (env:Env) (sts:List Stmt) (m:Loc) (hp:Hp) (Q:QX):Prop:=
 ∀ s,Rel B (hp.set env.locals (.ns m)) s->wpAny M A (execs sts env) (PX B₂ env.locals s.heap Q) E s
theorem Zoy {B₂:Shared}{f:Addr}{o:Obj}{fd:FuncData}{body:List Stmt}{avs:List AV}{bs:List (PySem.Str × AV)}{Q:QV} (G:Gnd K B) (ho:K.lookup f=some o) (hd:o.data = .func fd) (hcd:codeIn K fd.code fd.qualname=true)
  (hbody:fd.body = .stmts body) (hroom:A.depth < recursionLimit)
  (hbind:∀ s vs,VRs s.heap avs vs->(∀ b o,B.heap.get? b=some o->s.heap.get? b=some o)->∃ us:List (PySem.Str × Value),BindsTo s fd ⟨vs,[]⟩ us/\us.reverse.map (·.1)=bs.map (·.1)/\VRs s.heap (bs.map (·.2)) (us.reverse.map (·.2)))
  (hloc:bs.all (λx=>fd.scope.names.lookup x.1 == some .local)=true) (hcell:∀ x ∈ fd.scope.names,x.2≠.cell)
  (h:∀ L,hp L=none->L≠env.locals->EXs2 (model PW W0) (A.deeper (callEnv fd L f)) (λ_ _=>False) B B₂ (callEnv fd L f) body (locOf bs) (hp.set env.locals (.ns m))
   (λfl _ hp'=>∃ hp₂:Hp,(∀ a o,(hp₂.set env.locals (.ns m)) a=some o->hp' a=some o/\a≠L)/\Q (Zd6 fl) hp₂))
  (hco:autoParam (fd.scope.isCoroutine=false) rB) (hgen:autoParam (fd.scope.isGenerator=false) rB) (hk:autoParam (fd.scope.kind = .function) rB) :
  CD2 (model PW W0) A E B B₂ env (.ref f) m avs hp Q:=λs vs r hv=>by
 refine hide λ_ Z=>?_;obtain ⟨us,hb,e1,e2⟩:=hbind s vs hv r.keep;apply Z;clear Z;have nm:us.map (·.1)=(bs.map (·.1)).reverse:=by rw[<-e1,List.map_reverse,List.reverse_reverse]
 refine codeAny_call_def hroom (r.keep _ _ (G.X _ _ ho)) hd (G.lim.keeps r.keep) (codeRec_of (G.X.keeps r.keep) hcd) hbody hb hcell (λx hx=>?_) (λhZ hns hkZ=>?_) hco hgen hk
 .refine hide λ_ Z=>?_;have:x.1 ∈ bs.map (·.1):=by rw[<-List.mem_reverse,<-nm];exact List.mem_map_of_mem hx
  obtain ⟨y,hy,e⟩:=List.mem_map.mp this;apply Z;clear Z;rw[<-e]
  simpa using List.all_eq_true.mp hloc y hy
 .have hne:s.heap.objs.size≠env.locals:=λe=>by have f:=r.fresh;rw[e,Hp.ss]at f;cases f
  have hfr:hp s.heap.objs.size=none:=by have f:=r.fresh;rw[Hp.sn _ _ hne]at f;exact f
  have le:ImmLe s.heap hZ:=ImmLe.keep hkZ;have rel:Rel B ((hp.set env.locals (.ns m)).set (callEnv fd s.heap.objs.size f).locals (.ns (locOf bs))) { s with heap:=hZ,toks:=s.toks + us.length }:=by
   refine ⟨λb o e=>hkZ _ _ (r.keep b o e),λa o' e=>?_,r.os,r.bare,?_⟩
   .by_cases ha:a=s.heap.objs.size
    .subst ha;rw[show (callEnv fd s.heap.objs.size f).locals=s.heap.objs.size from rfl,Hp.ss]at e;cases e;exact ⟨r.nob (Nat.le_refl _),_,hns,Zgp e1 (e2.mono le)⟩
    .rw [show (callEnv fd s.heap.objs.size f).locals=s.heap.objs.size from rfl,Hp.sn _ _ ha]at e;exact ⟨(r.objs a o' e).1,(r.objs a o' e).2.here le λo'' e=>hkZ _ _ e⟩
   .trivial
  refine wpAny_mono (h _ hfr hne _ rel) (λfl s' x=>?_) λ_ _ x=>x.elim;refine hide λ_ Z=>?_;obtain ⟨af,m',hp',r',le',hf,hp₂,hsub,q⟩:=x;apply Z;clear Z;refine mkV (av:=Zd6 af) (r'.sub λa o e=>?_) (le.trans le') (Zg8 hf) q;have:=hsub a o e;rw[show (callEnv fd s.heap.objs.size f).locals=s.heap.objs.size from rfl,Hp.sn _ _ this.2];exact this.1
theorem Zqi {f:Addr}{o:Obj}{fd:FuncData}{body:List Stmt}{avs:List AV}{bs:List (PySem.Str × AV)}{Q:QV} (G:Gnd K B) (ho:K.lookup f=some o) (hd:o.data = .func fd) (hcd:codeIn K fd.code fd.qualname=true)
  (hbody:fd.body = .stmts body) (hroom:A.depth < recursionLimit)
  (hbind:∀ s vs,VRs s.heap avs vs->(∀ b o,B.heap.get? b=some o->s.heap.get? b=some o)->∃ us:List (PySem.Str × Value),BindsTo s fd ⟨vs,[]⟩ us/\us.reverse.map (·.1)=bs.map (·.1)/\VRs s.heap (bs.map (·.2)) (us.reverse.map (·.2)))
  (hloc:bs.all (λx=>fd.scope.names.lookup x.1 == some .local)=true) (hcell:∀ x ∈ fd.scope.names,x.2≠.cell)
  (h:∀ L,hp L=none->L≠env.locals->EXs (model PW W0) (A.deeper (callEnv fd L f)) (λ_ _=>False) B (callEnv fd L f) body (locOf bs) (hp.set env.locals (.ns m))
   (λfl _ hp'=>∃ hp₂:Hp,(∀ a o,(hp₂.set env.locals (.ns m)) a=some o->hp' a=some o/\a≠L)/\Q (Zd6 fl) hp₂))
  (hco:autoParam (fd.scope.isCoroutine=false) rB) (hgen:autoParam (fd.scope.isGenerator=false) rB) (hk:autoParam (fd.scope.kind = .function) rB) :
  CD (model PW W0) A E B env (.ref f) m avs hp Q:=Zoy G ho hd hcd hbody hroom hbind hloc hcell h hco hgen hk
theorem Zho {h:Heap}{xs:List AV}{vs:Array Value} (hv:VRs h xs vs.toList) (lo hi:Option Int):VRs h (pick xs lo hi) (slicePick vs lo hi none).toList:=by
 rw[slicePick_plain];have e:vs.size=xs.length:=by rw[<-Array.length_toList];exact hv.length
 rw[e];exact (hv.drop _).take _
noncomputable abbrev Zig (PW:Program) (W0:World) (A:Around) (E:ET) (B:Shared) (env:Env) (m:Loc) (lower:Option Expr) (upper:Option Expr) (Q:QV):AV->Hp->Prop:=λo hpY=>optE (model PW W0) A E B env lower m hpY λlo hp₂=>optE (model PW W0) A E B env upper m hp₂ λhi hp₃=>∃ a xs kl ku,o = .ref a/\Lst B hp₃ env.locals a xs/\xs.length<=sizeLine/\Zfk lo=some kl/\Zfk hi=some ku/\∀ b,hp₃ b=none->b≠env.locals->Q (.ref b) (hp₃.set b (.list (pick xs kl ku)))
theorem Zbx {value:Expr}{lower upper:Option Expr} {p pos}{Q:QV}
  (h:EV (model PW W0) A E B env value m hp (Zig PW W0 A E B env m lower upper Q))
  (ht:∀ o r,letTemporaryGo value o r=pure ():=by intro _ _;rfl) :
  EV (model PW W0) A E B env (.Subscript value (.Slice lower upper none p) pos) m hp Q:=λs r=>by
 refine wpAny_Subscript_list_slice (h.use r λu sY o hpY rY leY hu hY=>hY.use rY λvl s₂ lo hp₂ r₂ le₂ hl h₂=>h₂.use r₂ λvu s₃ hi hp₃ r₃ le₃ hh h₃=>?_) ht;refine hide λ_ Z=>?_;obtain ⟨a,xs,kl,ku,rfl,hls,hsz,pl,pu,q⟩:=h₃;simp only[VR]at hu;subst hu;obtain ⟨vs,hlst,hvs⟩:=r₃.lst hls;apply Z;clear Z;have e:vs.size=xs.length:=by rw[<-Array.length_toList];exact hvs.length
 refine ⟨a,vs,kl,ku,rfl,hlst,by rw[e];exact hsz,(hl.mono le₃).part pl,hh.part pu,?_⟩;have rj:=r₃.push { cls:=.type "slice",data:=.fields #[vl,vu,.none] };have lej:ImmLe s₃.heap (s₃.heap.push { cls:=.type "slice",data:=.fields #[vl,vu,.none] }):=ImmLe.keep λb o'' e=>Heap.get?_push_of_some _ e;have n:=Rel.newAt rj { cls:=.type "list",data:=.seq (slicePick vs kl ku none) } (.list (pick xs kl ku)) ⟨_,0,IsL.new _ _,Zho (hvs.mono (lej.trans (ImmLe.keep λb o'' e=>Heap.get?_push_of_some _ e))) kl ku⟩;have hs:(s₃.heap.push { cls:=.type "slice",data:=.fields #[vl,vu,.none] }).objs.size=s₃.heap.objs.size + 1:=by simp
 simp only[hs]at n;exact mkV (av:=.ref _) n.1 (((leY.trans le₂).trans le₃).trans (lej.trans n.2.2.2)) VR_ref (q _ n.2.1 n.2.2.1)
theorem Zlr {name:PySem.Str}{id:String}{pl:Sem Bool}{s:Shared}{a:Addr}{xs:List AV}{Q:Value × List Value->Shared->Prop} (slot:Slot "list" name id) (hty:typeOf (.builtin id)=pure (.type "method_descriptor"))
  (r:Rel B (hp.set env.locals (.ns m)) s) (ha:hp a=some (.list xs)) (hL:a≠env.locals) (h:Q (.builtin id,[.ref a]) s):wpAny (model PW W0) A (getMethod (.ref a) name pl) Q E s:=by
 refine hide λ_ Z=>?_;obtain ⟨vs,n,hl,_⟩:=r.at ha hL;apply Z;clear Z;exact getMethod_builtin hl.isList.typeIs PySem.F.plainAttrs_list slot hty (λb e=>by cases e;exact ⟨_,hl,rfl⟩) h
noncomputable abbrev Zg2 (PW:Program) (W0:World) (A:Around) (E:ET) (B:Shared) (env:Env) (m:Loc) (e:Expr) (Q:QV):AV->Hp->Prop:=λl hpY=>∃ a xsY,l = .ref a/\hpY a=some (.list xsY)/\a≠env.locals/\EVS (model PW W0) A E B env [e] m hpY λvs hp₂=>∃ xs v,vs=[v]/\hp₂ a=some (.list xs)/\xs.length<=sizeLine/\Q .none (hp₂.set a (.list (xs ++ [v])))
theorem Zgf {o e:Expr} {apos pos}{pl:Sem Bool}{Q:QV}
  (h:EV (model PW W0) A E B env o m hp (Zg2 PW W0 A E B env m e Q))
  (hc:autoParam (eval (.Call (.Attribute o (PySem.Str.ofString "append") apos) [e] [] pos) env=(do
   let ov <-eval o env
   standAt apos.atName
   let (f,first) <-holding [ov] (getMethod ov (PySem.Str.ofString "append") pl)
   callWith pos f first (backTo pos (starEach [e] env)) [])) rB)
  (he:autoParam (starEach [e] env=[(false,eval e env)]) rB) :
  EV (model PW W0) A E B env (.Call (.Attribute o (PySem.Str.ofString "append") apos) [e] [] pos) m hp Q:=λs r=>by
 refine MethodCall_ (pl:=pl) (h.use r λu sY l hpY rY leY hu x=>?_) hc;refine hide λ_ Z=>?_;obtain ⟨a,xsY,rfl,ha,hL,q⟩:=x;apply Z;clear Z;simp only[VR]at hu;subst hu;refine Zlr slot_list_append type_list_append rY ha hL ?_;refine callWith_method1 (Zcu (q pos sY rY) λvs s₂ avs hp₂ r₂ le₂ hv x=>?_) he;refine hide λ_ Z=>?_;obtain ⟨xs,v,rfl,ha₂,hsz,q⟩:=x;obtain ⟨y,rfl,hy⟩:=Zb6 hv;obtain ⟨us,n,hl,hus⟩:=r₂.at ha₂ hL;apply Z;clear Z;have e2:us.size=xs.length:=by rw[<-Array.length_toList];exact hus.length
 refine wpAny_list_append_plain (items:=us) ⟨n,hl⟩ (λh' hpl hs=>?_) (by rw[e2];exact hsz);refine hide λ_ Z=>?_;obtain ⟨n',hl'⟩:=hpl;apply Z;clear Z;have t:=r₂.turn (a:=a) (Hp.snt hL ha₂) hs (.list (xs ++ [v])) (λle=>⟨us.push y,n',hl',by rw[Array.toList_push];exact (hus.mono le).append (VRs.one (hy.mono le))⟩) s₂.toks;rw[Hp.sc _ _ _ (Ne.symm hL)]at t;exact mkV (av:=.none) t.1 ((leY.trans le₂).trans t.2) Zc8 q
noncomputable abbrev Zkm (m:Loc) (Q:QX):AV->Hp->Prop:=λv hp'=>(∀ a,v≠.ref a)/\(∀ xs,v≠.tup xs)/\(∀ xs,v≠.mat xs)/\Q .next m hp'
theorem Zcg {e:Expr} {pos}{Q:QX} (h:EV (model PW W0) A E B env e m hp (Zkm m Q)) (hi:autoParam (interactive env=false) rB)
  (hs:autoParam (swapsWith e none pos.line env=pure false) rB):EX (model PW W0) A E B env (.Expr e pos) m hp Q:=λs r=>by
 refine wpAny_Expr (h.use r λu sY v hpY rY leY hu q=>?_) hi hs;have post:PX B env.locals s.heap Q .next sY:=mkX (af:=.next) rY leY rfl q.2.2.2;cases v with
 | ref a=>exact absurd rfl (q.1 a)
 | tup xs=>exact absurd rfl (q.2.1 xs)
 | mat xs=>exact absurd rfl (q.2.2.1 xs)
 | none=>simp only[VR]at hu;subst hu;exact post
 | bool b=>simp only[VR]at hu;subst hu;exact post
 | int b=>simp only[VR]at hu;obtain ⟨t,rfl⟩:=hu;exact post
 | str b=>simp only[VR]at hu;obtain ⟨t,rfl⟩:=hu;exact post
 | flt b=>simp only[VR]at hu;obtain ⟨t,rfl⟩:=hu;exact post
 | ty b=>simp only[VR]at hu;subst hu;exact post
 | bi b=>simp only[VR]at hu;subst hu;exact post
end
section
variable {K:Frag}
theorem Rel.ext {s:Shared} (r:Rel B (hp.set env.locals (.ns m)) s) {h':Heap} (he:Heap.ExtBut s.heap.objs.size s.heap h') (t:Nat):Rel B (hp.set env.locals (.ns m)) { s with heap:=h',toks:=t }/\ImmLe s.heap h':=by have k:∀ b o,s.heap.get? b=some o->h'.get? b=some o:=λb o e=>he b o (Nat.ne_of_lt (Heap.lt_size e)) e;refine ⟨⟨λb o e=>k b o (r.keep b o e),λa o e=>⟨(r.objs a o e).1,(r.objs a o e).2.here (ImmLe.keep k) λo' e'=>k _ _ e'⟩,r.os,r.bare,?_⟩,ImmLe.keep k⟩;trivial
noncomputable def ASG (M:Model) (A:Around) (E:ET) (B:Shared) (env:Env) (t:Expr) (x:AV) (m:Loc) (hp:Hp) (Q:Loc->Hp->Prop):Prop:=
 ∀ s v,Rel B (hp.set env.locals (.ns m)) s->VR s.heap x v->wpAny M A (assign t env v) (PA B env.locals s.heap Q) E s
theorem Zak {x:PySem.Str} {pos}{v:AV}{Q:Loc->Hp->Prop} (h:Q (upd m x v) hp) (hl:autoParam (env.kindOf x=some .local) rB)
  (hk:autoParam ((env.scope.kind == .class || (env.scope.kind == .module && env.locals != env.globals))=false) rB):ASG (model PW W0) A E B env (.Name x pos) v m hp Q:=λs u r hu=>
 PyProof.Rows.assign_Name (Zbm r hu (λs' r' le=>mkA r' le h) hl hk)
noncomputable def ASGS (M:Model) (A:Around) (E:ET) (B:Shared) (env:Env) (ts:List (Value->Sem Unit)) (xs:List AV) (m:Loc) (hp:Hp) (Q:Loc->Hp->Prop):Prop:=
 ∀ s vs,Rel B (hp.set env.locals (.ns m)) s->VRs s.heap xs vs->wpAny M A (assignInOrder ts vs) (PA B env.locals s.heap Q) E s
theorem Zav {Q:Loc->Hp->Prop} (h:Q m hp):ASGS (model PW W0) A E B env [] [] m hp Q:=λs vs r _=>assignInOrder_nil ⟨m,hp,r,.refl _,h⟩
noncomputable abbrev Zg3 (PW:Program) (W0:World) (A:Around) (E:ET) (B:Shared) (env:Env) (ts:List (Value->Sem Unit)) (xs:List AV) (Q:Loc->Hp->Prop):Loc->Hp->Prop:=λm' hp'=>ASGS (model PW W0) A E B env ts xs m' hp' Q
theorem Zam {t:Expr}{ts:List (Value->Sem Unit)}{x:AV}{xs:List AV}{Q:Loc->Hp->Prop} (h:ASG (model PW W0) A E B env t x m hp (Zg3 PW W0 A E B env ts xs Q)) :
  ASGS (model PW W0) A E B env (assign t env :: ts) (x :: xs) m hp Q:=λs vs r hv=>by
 simp only[VRs]at hv;obtain ⟨v,us,rfl,h1,h2⟩:=hv;refine assignInOrder_cons (useA (h s v r h1) λ_ sY mY hpY rY leY q=>?_);exact useA (q sY us rY (h2.mono leY)) λ_ s₂ m₂ hp₂ r₂ le₂ q=>mkA r₂ (leY.trans le₂) q
theorem Zas {x:PySem.Str}{ts:List (Value->Sem Unit)}{v:AV}{xs:List AV}{Q:Loc->Hp->Prop} (h:ASGS (model PW W0) A E B env ts xs (upd m x v) hp Q) (hl:autoParam (env.kindOf x=some .local) rB)
  (hk:autoParam ((env.scope.kind == .class || (env.scope.kind == .module && env.locals != env.globals))=false) rB):ASGS (model PW W0) A E B env (bindName env x :: ts) (v :: xs) m hp Q:=λs vs r hv=>by
 simp only[VRs]at hv;obtain ⟨v,us,rfl,h1,h2⟩:=hv;refine assignInOrder_cons (bindName_ (Zbm r h1 (λsY rY leY=>?_) hl hk));exact useA (h sY us rY (h2.mono leY)) λ_ s₂ m₂ hp₂ r₂ le₂ q=>mkA r₂ (leY.trans le₂) q
theorem Zci {elts:List Expr} {k pos}{xs:List AV}{ts:List (Value->Sem Unit)}{Q:Loc->Hp->Prop} (hh:A.handled=none) (hts:(assignEach elts env).map (·.2)=ts) (hn:(assignEach elts env).length=xs.length) (hstar:(assignEach elts env).findIdx? (·.1)=none)
  (h:ASGS (model PW W0) A E B env ts xs m hp Q):ASG (model PW W0) A E B env (.Tuple elts k pos) (.tup xs) m hp Q:=λs v r hv=>by
 simp only[VR]at hv;obtain ⟨a,vs,rfl,ht,hvs⟩:=hv;refine assign_Tuple_tuple hh ht (by rw[hn,<-hvs.length,Array.length_toList]) hstar λh' he=>?_;obtain ⟨r',le⟩:=r.ext he s.toks;rw[hts];exact useA (h _ _ r' (hvs.mono le)) λ_ s₂ m₂ hp₂ r₂ le₂ q=>mkA r₂ (le.trans le₂) q
noncomputable abbrev Zgb (PW:Program) (W0:World) (A:Around) (E:ET) (B:Shared) (env:Env) (m:Loc) (tY:Expr) (t₂:Expr) (Q:QX):AV->Hp->Prop:=λv hpY=>ASG (model PW W0) A E B env tY v m hpY λm₂ hp₂=>ASG (model PW W0) A E B env t₂ v m₂ hp₂ λm₃ hp₃=>Q .next m₃ hp₃
theorem Zba {tY t₂ value:Expr} {pos}{Q:QX}
  (h:EV (model PW W0) A E B env value m hp (Zgb PW W0 A E B env m tY t₂ Q))
  (he:autoParam ((assignEach [tY,t₂] env).map (·.2)=[assign tY env,assign t₂ env]) rB) (hw:autoParam (swappedStores [tY,t₂] value env=pure none) rB):EX (model PW W0) A E B env (.Assign [tY,t₂] value pos) m hp Q:=λs r=>by
 refine wpAny_Assign_two (h.use r λu sY v hpY rY leY hu q=>?_) he hw;refine useA (q sY u rY hu) λ_ s₂ m₂ hp₂ r₂ le₂ q=>?_;exact useA (q s₂ u r₂ (hu.mono le₂)) λ_ s₃ m₃ hp₃ r₃ le₃ q=>mkX (af:=.next) r₃ ((leY.trans le₂).trans le₃) rfl q
noncomputable abbrev Zf8 (PW:Program) (W0:World) (A:Around) (E:ET) (B:Shared) (env:Env) (m:Loc) (elts:List Expr) (Q:QX) (k:Nat) (tpos:Pos):AV->Hp->Prop:=λv hpY=>ASG (model PW W0) A E B env (.Tuple elts k tpos) v m hpY λm₂ hp₂=>Q .next m₂ hp₂
theorem Zbk {elts:List Expr} {k tpos}{value:Expr} {pos}{Q:QX}
  (h:EV (model PW W0) A E B env value m hp (Zf8 PW W0 A E B env m elts Q k tpos))
  (hs:autoParam (swapsWithSole [.Tuple elts k tpos] value pos.line env=pure false) rB) (hw:autoParam (swappedStores [.Tuple elts k tpos] value env=pure none) rB):EX (model PW W0) A E B env (.Assign [.Tuple elts k tpos] value pos) m hp Q:=λs r=>by
 refine Assign_Tuple (h.use r λu sY v hpY rY leY hu q=>?_) hs hw;exact useA (q sY u rY hu) λ_ s₂ m₂ hp₂ r₂ le₂ q=>mkX (af:=.next) r₂ (leY.trans le₂) rfl q
noncomputable abbrev Ze9 (PW:Program) (W0:World) (A:Around) (E:ET) (B:Shared) (env:Env) (m:Loc) (names:List PySem.Str) (Q:QX):AV->Hp->Prop:=λv hpY=>∃ xs,v = .tup xs/\names.length=xs.length/\ASGS (model PW W0) A E B env (names.reverse.map λn=>bindName env n) xs.reverse m hpY λm₂ hp₂=>Q .next m₂ hp₂
theorem Za4 {elts:List Expr} {k tpos}{value:Expr} {pos}{names:List PySem.Str}{Q:QX} (hh:A.handled=none)
  (h:EV (model PW W0) A E B env value m hp (Ze9 PW W0 A E B env m names Q))
  (hs:autoParam (swapsWithSole [.Tuple elts k tpos] value pos.line env=pure false) rB) (hw:autoParam (swappedStores [.Tuple elts k tpos] value env=pure (some names)) rB):EX (model PW W0) A E B env (.Assign [.Tuple elts k tpos] value pos) m hp Q:=λs r=>by
 refine Assign_Tuple_swapped (names:=names) (h.use r λu sY v hpY rY leY hu q=>?_) hs hw;refine hide λ_ Z=>?_;obtain ⟨xs,rfl,hn,q⟩:=q;simp only[VR]at hu;obtain ⟨a,vs,rfl,ht,hvs⟩:=hu;apply Z;clear Z;have e:names.length=vs.size:=by rw[hn,<-hvs.length,Array.length_toList]
 rw[e];refine unpackItems_tuple hh ht λh' he=>?_;refine hide λ_ Z=>?_;obtain ⟨r',le⟩:=rY.ext he sY.toks;apply Z;clear Z;have hrev:∀ {xs:List AV}{vs:List Value},VRs h' xs vs->VRs h' xs.reverse vs.reverse:=by
  intro xs
  induction xs with
  | nil=>intro vs x;simp only[VRs]at x;subst x;simp[VRs]
  | cons x xs ih=>
   intro vs hx;simp only[VRs]at hx;obtain ⟨v,r,rfl,h1,h2⟩:=hx;rw[List.reverse_cons,List.reverse_cons];exact (ih h2).append (VRs.one h1)
 exact useA (q _ _ r' (hrev (hvs.mono le))) λ_ s₂ m₂ hp₂ r₂ le₂ q=>mkX (af:=.next) r₂ ((leY.trans le).trans le₂) rfl q
end
noncomputable def Hp.del (hp:Hp) (a:Addr):Hp:=λb=>if b=a then none else hp b
section
variable {K:Frag}
theorem Rel.drop {s:Shared} (r:Rel B (hp.set env.locals (.ns m)) s) {it:Addr}{ob:Obj} (hit:hp it=some (.obj ob)) (hL:it≠env.locals) {h':Heap} (he:Heap.ExtBut it s.heap h') (t:Nat) :
  Rel B ((hp.del it).set env.locals (.ns m)) { s with heap:=h',toks:=t }/\ImmLe s.heap h':=by
 have hit':(hp.set env.locals (.ns m)) it=some (.obj ob):=Hp.snt hL hit;have le:ImmLe s.heap h':=λb o e i=>by
  by_cases hb:b=it
  .subst hb;exact absurd i ((r.objs _ _ hit').2.notImm _ e)
  .exact he b o hb e
 have hlow:=(r.objs _ _ hit').1;refine ⟨⟨λb o e=>he b o (λhb=>?_) (r.keep b o e),λa o e=>?_,r.os,r.bare,?_⟩,le⟩
 .subst hb;exact noE hlow e
 .have ha:a≠it:=by rintro rfl;rw[Hp.sn _ _ hL]at e;simp[Hp.del]at e
  have e':(hp.set env.locals (.ns m)) a=some o:=by
   by_cases hl:a=env.locals
   .subst hl;rw[Hp.ss]at e ⊢;exact e
   .rw [Hp.sn _ _ hl]at e ⊢;simpa [Hp.del,ha] using e
  exact ⟨(r.objs a o e').1,(r.objs a o e').2.here le λo' e''=>he _ _ ha e''⟩
 .trivial
theorem Zbz {target:Expr}{it:Addr}{v:Value}{ob:Obj}{n:String}{s:Shared}{W:Unit->Shared->Prop}{E':ET} (h:s.heap.get? it=some ob) (hc:ob.cls = .type n)
  (hn : ["enumerate", "zip", "dict_itemiterator", "dict_reverseitemiterator", "odict_iterator", "itertools.zip_longest", "itertools.pairwise"].contains n=false) (hW:W () s):wpAny (model PW W0) A (letOwnedTupleGo target (.ref it) v) W E' s:=by
 have tup:wpAny (model PW W0) A (letOwnedTupleGo (.Tuple [] 0 ⟨0,0,0,0⟩) (.ref it) v) W E' s:=by
  cases v with
  | ref a=>
   refine wB (wpAny_load h ?_);obtain ⟨c,d,dt,sl⟩:=ob;dsimp only at hc;subst hc;cases dt with
   | fields vs=>dsimp only;rw[hn];exact wP hW
   | _=>exact wP hW
  | _=>exact wP hW
 cases target with
 | Tuple=>exact tup
 | List=>exact tup
 | _=>exact wP hW
theorem Zdo {target:Expr}{body:List Stmt}{it:Addr}{n:Nat}{el:Nat->AV}{st:Nat->Obj->Prop}{I:Nat->Loc->Hp->Prop}{Q:QX}{R:Result->Shared->Prop} {E₁:ET} (hL:it≠env.locals)
  (imm:∀ i ob,st i ob->¬ Imm ob)
  (next:∀ i m₂ hp₂ s ob,i < n->I i m₂ hp₂->hp₂ it=some (.obj ob)->st i ob->Rel B (hp₂.set env.locals (.ns m₂)) s->∀ (E':ET) (W:Option Value->Shared->Prop),
   (∀ v h' t' ob',VR s.heap (el i) v->h'.get? it=some ob'->st (i + 1) ob'->Heap.SameBut it s.heap h'->W (some v) { s with heap:=h',toks:=t' })->wpAny (model PW W0) A (pyNext (.ref it)) W E' s)
  (stop:∀ m₂ hp₂ s ob,I n m₂ hp₂->hp₂ it=some (.obj ob)->st n ob->Rel B (hp₂.set env.locals (.ns m₂)) s->∀ (E':ET) (W:Option Value->Shared->Prop),
   (∀ h' t',Heap.ExtBut it s.heap h'->W none { s with heap:=h',toks:=t' })->wpAny (model PW W0) A (pyNext (.ref it)) W E' s)
  (hset:∀ i m₂ hp₂ ob,I i m₂ hp₂->I i m₂ (hp₂.set it (.obj ob)))
  (turn:∀ i m₂ hp₂ ob,i < n->I i m₂ hp₂->hp₂ it=some (.obj ob)->ASG (model PW W0) A E₁ B env target (el i) m₂ hp₂ λm₃ hp₃=>EXs (model PW W0) A E₁ B env body m₃ hp₃ λfl mj hpj=>
   match fl with | .next | .cont=>I (i + 1) mj hpj/\hpj it=some (.obj ob) | .brk=>Q .next mj hpj | .ret v=>Q (.ret v) mj hpj)
  (fin:∀ m₂ hp₂,I n m₂ hp₂->Q .next m₂ (hp₂.del it)) {s₀:Shared}
  (hR:∀ fl af m' hp' s',Rel B (hp'.set env.locals (.ns m')) s'->ImmLe s₀.heap s'.heap->FR s'.heap af fl->Q af m' hp'->R (.ok fl) s')
  {s:Shared}{ob:Obj} (h0:I 0 m hp) (hob:hp it=some (.obj ob)) (hst:st 0 ob) (rel:Rel B (hp.set env.locals (.ns m)) s) (leZ:ImmLe s₀.heap s.heap)
  (cl:∀ i ob,st i ob->∃ n,ob.cls = .type n/\["enumerate", "zip", "dict_itemiterator", "dict_reverseitemiterator", "odict_iterator", "itertools.zip_longest", "itertools.pairwise"].contains n=false)
  (hE:∀ e s',E₁ e s'->notedBy (model PW W0) A env (λe s'=>R (.error e) s') e s') :
  codeAny (model PW W0) A (.forLoop target (.ref it) body [] env) R s:=by
 refine codeAny_forLoop_any (λk s'=>∃ i m₂ hp₂ ob,k=n - i/\i<=n/\I i m₂ hp₂/\hp₂ it=some (.obj ob)/\st i ob/\Rel B (hp₂.set env.locals (.ns m₂)) s'/\ImmLe s₀.heap s'.heap) (λk s' x=>?_) n ⟨0,m,hp,ob,rfl,Nat.zero_le _,h0,hob,hst,rel,leZ⟩;refine hide λ_ Z=>?_;obtain ⟨i,m₂,hp₂,ob,rfl,hi,hI,hob,hst,r,le⟩:=x;apply Z;clear Z;by_cases hlt:i < n
 .refine next i m₂ hp₂ s' ob hlt hI hob hst r _ _ λv h' t' ob' hv hg hst' hs=>?_
  refine hide λ_ Z=>?_;have t:=r.turn (a:=it) (o:=.obj ob) (Hp.snt hL hob) hs (.obj ob') (λ_=>⟨hg,imm _ _ hst'⟩) t';rw[Hp.sc _ _ _ (Ne.symm hL)]at t;obtain ⟨nm,hcl,hno⟩:=cl _ _ hst';apply Z;clear Z;refine Zbz hg hcl hno ?_;have hturn:=turn i m₂ (hp₂.set it (.obj ob')) ob' hlt (hset _ _ _ _ hI) (Hp.ss ..);refine Zql hE (hturn _ v t.1 (hv.mono t.2)) λ_ s₃ m₃ hp₃ r₃ le₃ q=>?_;refine Zo0 hE (q s₃ r₃) λfl sj af mj hpj rj lej hf q=>?_;have leAll:ImmLe s₀.heap sj.heap:=((le.trans t.2).trans le₃).trans lej;cases af with
  | next=>cases hf;exact ⟨n - (i + 1),Zb4 hlt,i + 1,mj,hpj,ob',rfl,hlt,q.1,q.2,hst',rj,leAll⟩
  | cont=>cases hf;exact ⟨n - (i + 1),Zb4 hlt,i + 1,mj,hpj,ob',rfl,hlt,q.1,q.2,hst',rj,leAll⟩
  | brk=>cases hf;exact hR _ .next _ _ _ rj leAll rfl q
  | ret v=>obtain ⟨u,rfl,hu⟩:=hf;exact hR _ (.ret v) _ _ _ rj leAll ⟨u,rfl,hu⟩ q
 .have:i=n:=by (exact F20 0x876874208750 0x101110 rfl hi hlt)
  subst this;refine stop m₂ hp₂ s' ob hI hob hst r _ _ λh' t' he=>?_;refine hide λ_ Z=>?_;obtain ⟨r',le'⟩:=r.drop hob hL he t';apply Z;clear Z;exact wpAny_execs_nil (hR _ .next _ _ _ r' (le.trans le') rfl (fin _ _ hI))
theorem Zfb {target iter:Expr}{body:List Stmt} {pos}{Q:QX} (hh:A.handled=none)
  (h:EV (model PW W0) A E B env iter m hp λo hpY=>∃ a xs,o = .ref a/\Lst B hpY env.locals a xs/\∀ it,hpY it=none->it≠env.locals->∃ I:Nat->Loc->Hp->Prop,
   (∀ ob,I 0 m (hpY.set it (.obj ob)))/\(∀ i m₂ hp₂ ob,I i m₂ hp₂->I i m₂ (hp₂.set it (.obj ob)))/\(∀ i m₂ hp₂,I i m₂ hp₂->Lst B hp₂ env.locals a xs) /\
   (∀ i x m₂ hp₂ ob,xs[i]?=some x->I i m₂ hp₂->hp₂ it=some (.obj ob)->ASG (model PW W0) A E B env target x m₂ hp₂ λm₃ hp₃=>EXs (model PW W0) A E B env body m₃ hp₃ λfl mj hpj=>
    match fl with | .next | .cont=>I (i + 1) mj hpj/\hpj it=some (.obj ob) | .brk=>Q .next mj hpj | .ret v=>Q (.ret v) mj hpj) /\
   (∀ m₂ hp₂,I xs.length m₂ hp₂->Q .next m₂ (hp₂.del it)))
  (hE:PassesOwn (model PW W0) A env E:=by first | exact PassesOwn.never | assumption)
  (hs:∀ x,foldedSetIterable iter env x=pure x:=by intro _;rfl) :
  EX (model PW W0) A E B env (.For target iter body [] pos) m hp Q:=λs r=>by
 refine wpAny_For (h.use r λu sY o hpY rY leY hu x=>?_) hs;refine hide λ_ Z=>?_;obtain ⟨a,xs,rfl,hl,x⟩:=x;simp only[VR]at hu;subst hu;obtain ⟨vs,hlst,hvs⟩:=rY.lst hl;apply Z;clear Z;refine wpAny_pyIter_list hlst ?_;refine hide λ_ Z=>?_;have n:=rY.newAt { cls:=.type "list_iterator",data:=.fields #[.ref a,.int 0 0] } (.obj { cls:=.type "list_iterator",data:=.fields #[.ref a,.int 0 0] }) ⟨Heap.get?_push_size _ rfl,λi=>by obtain ⟨_,_,_,e⟩:=i;cases e⟩;obtain ⟨I,h0,hset,hlI,turn,fin⟩:=x _ n.2.1 n.2.2.1;apply Z;clear Z;refine Zdo (n:=xs.length) (el:=λi=>xs.getD i .none) (st:=λi ob=>ob.cls = .type "list_iterator" /\ ob.data = .fields #[.ref a,.int i 0]) (I:=I) (Q:=Q) (s₀:=s) n.2.2.1 (λi ob x i'=>by obtain ⟨_,_,_,e⟩:=i';rw[x.2]at e;cases e)
  (λi m₂ hp₂ s' ob hi hI hob hst r' E' W k=>?_) (λm₂ hp₂ s' ob hI hob hst r' E' W k=>?_) hset (λi m₂ hp₂ ob hi hI hob=>turn i _ m₂ hp₂ ob (by simp[List.getD,List.getElem?_eq_getElem hi]) hI hob) fin
  (λfl af m' hp' s' r' le' hf q=>mkX (af:=af) r' le' hf q) (h0 _) (Hp.ss ..) ⟨rfl,rfl⟩ n.1 (leY.trans n.2.2.2) (λ_ _ x=>⟨_,x.1,rfl⟩) hE
 .refine hide λ_ Z=>?_;obtain ⟨vs',hl',hvs'⟩:=r'.lst (hlI _ _ _ hI);obtain ⟨v,hv,hxv⟩:=hvs'.get (i:=i) (x:=xs.getD i .none) (by simp[List.getD,List.getElem?_eq_getElem hi]);apply Z;clear Z;have hg:s'.heap.get? sY.heap.objs.size=some ob:=(r'.at hob n.2.2.1).1;refine wpAny_pyNext_list_item (i:=i) ⟨ob,hg,hst.1,hst.2⟩ hl' (by simpa using hv) λh' hit' hs'=>?_;refine hide λ_ Z=>?_;obtain ⟨ob',hg',hc',hd'⟩:=hit';apply Z;clear Z;exact k v h' s'.toks ob' hxv hg' ⟨hc',hd'⟩ hs'
 .refine hide λ_ Z=>?_;obtain ⟨vs',hl',hvs'⟩:=r'.lst (hlI _ _ _ hI);apply Z;clear Z;have hg:s'.heap.get? sY.heap.objs.size=some ob:=(r'.at hob n.2.2.1).1;refine wpAny_pyNext_list_end hh (i:=xs.length) ⟨ob,hg,hst.1,hst.2⟩ hl' ?_ λh' he=>k h' s'.toks he;have e:vs'.size=xs.length:=by rw[<-Array.length_toList];exact hvs'.length
  exact Array.getElem?_eq_none (by (exact F20 0x8758760 0x101 rfl e))
end
section
variable {K:Frag}
noncomputable abbrev Zih (PW:Program) (W0:World) (A:Around) (E:ET) (B:Shared) (env:Env) (m:Loc) (e:Expr) (rest:List Expr) (T:String) (Q:QV):AV->Hp->Prop:=λf hpY=>f = .ty T/\EVS (model PW W0) A E B env (e :: rest) m hpY λvs hp₂=>CL (model PW W0) A E B env (.type T) m vs hp₂ Q
theorem Zb9 {func e:Expr}{rest:List Expr} {pos}{T:String}{Q:QV}
  (h:EV (model PW W0) A E B env func m hp (Zih PW W0 A E B env m e rest T Q))
  (hc:autoParam (eval (.Call func (e :: rest) [] pos) env=(do callWith pos (<-eval func env) [] (backTo pos (starEach (e :: rest) env)) (backToKw pos (keywordEach [] env)))) rB)
  (he:autoParam (starEach (e :: rest) env=(false,eval e env) :: starEach rest env) rB) (hplain:autoParam ((backTo pos (starEach rest env)).any (·.1)=false) rB) :
  EV (model PW W0) A E B env (.Call func (e :: rest) [] pos) m hp Q:=λs r=>by
 refine Call_ (h.use r λu sY f hpY rY leY hu yq=>?_) hc;obtain ⟨hf,q⟩:=yq;subst hf;simp only[VR]at hu;subst hu;refine PyProof.Rows.callWith_type1 (Zcu (q pos sY rY) λvs s₂ avs hp₂ r₂ le₂ hv q=>?_) he hplain;exact useV (q s₂ vs r₂ hv) λv s₃ av hp₃ r₃ le₃ hv q=>mkV r₃ ((leY.trans le₂).trans le₃) hv q
noncomputable def RangeOb (ob:Obj) (a b:Int):Prop:=∃ t u v,ob={ cls:=.type "range",dict:=none,data:=.fields #[.int a t,.int b u,.int 1 v],slots:=#[] }
theorem RangeOb.notImm {ob:Obj}{a b:Int} (h:RangeOb ob a b):¬ Imm ob:=by obtain ⟨t,u,v,rfl⟩:=h;rintro ⟨_,_,_,e⟩;cases e
theorem Zd4 {n:Int}{Q:QV} (h:∀ r ob,hp r=none->r≠env.locals->RangeOb ob 0 n->Q (.ref r) (hp.set r (.obj ob))):CL (model PW W0) A E B env (.type "range") m [.int n] hp Q:=λs vs r hv=>by obtain ⟨v,rfl,h1⟩:=Zb6 hv;simp only[VR]at h1;obtain ⟨t,rfl⟩:=h1;refine call_range_1 ?_;have ro:RangeOb { cls:=.type "range",dict:=none,data:=.fields #[.int 0 s.toks,.int n t,.int 1 (s.toks + 1)],slots:=#[] } 0 n:=⟨_,_,_,rfl⟩;have x:=r.newAt { cls:=.type "range",data:=.fields #[.int 0 s.toks,.int n t,.int 1 (s.toks + 1)] } (.obj _) ⟨Heap.get?_push_size _ rfl,ro.notImm⟩;exact mkV (av:=.ref _) (x.1.toks _) x.2.2.2 VR_ref (h _ _ x.2.1 x.2.2.1 ro)
theorem Zc1 {a b:Int}{Q:QV} (h:∀ r ob,hp r=none->r≠env.locals->RangeOb ob a b->Q (.ref r) (hp.set r (.obj ob))):CL (model PW W0) A E B env (.type "range") m [.int a,.int b] hp Q:=λs vs r hv=>by obtain ⟨v,u,rfl,h1,h2⟩:=Zbs hv;simp only[VR]at h1 h2;obtain ⟨t,rfl⟩:=h1;obtain ⟨t',rfl⟩:=h2;refine call_range_2 ?_;have ro:RangeOb { cls:=.type "range",dict:=none,data:=.fields #[.int a t,.int b t',.int 1 s.toks],slots:=#[] } a b:=⟨_,_,_,rfl⟩;have x:=r.newAt { cls:=.type "range",data:=.fields #[.int a t,.int b t',.int 1 s.toks] } (.obj _) ⟨Heap.get?_push_size _ rfl,ro.notImm⟩;exact mkV (av:=.ref _) (x.1.toks _) x.2.2.2 VR_ref (h _ _ x.2.1 x.2.2.1 ro)
theorem Zd3 {target iter:Expr}{body:List Stmt} {pos}{Q:QX} (hh:A.handled=none)
  (h:EV (model PW W0) A E B env iter m hp λo hpY=>∃ rg ob a b,o = .ref rg/\hpY rg=some (.obj ob)/\rg≠env.locals/\RangeOb ob a b/\-(2 ^ 62)<=a/\a < 2 ^ 62/\-(2 ^ 62)<=b/\b < 2 ^ 62/\∀ it,hpY it=none->it≠env.locals->∃ I:Nat->Loc->Hp->Prop,
   (∀ ob,I 0 m (hpY.set it (.obj ob)))/\(∀ i m₂ hp₂ ob,I i m₂ hp₂->I i m₂ (hp₂.set it (.obj ob))) /\
   (∀ i m₂ hp₂ ob,i < (b - a).toNat->I i m₂ hp₂->hp₂ it=some (.obj ob)->ASG (model PW W0) A E B env target (.int (a + i)) m₂ hp₂ λm₃ hp₃=>EXs (model PW W0) A E B env body m₃ hp₃ λfl mj hpj=>
    match fl with | .next | .cont=>I (i + 1) mj hpj/\hpj it=some (.obj ob) | .brk=>Q .next mj hpj | .ret v=>Q (.ret v) mj hpj) /\
   (∀ m₂ hp₂,I (b - a).toNat m₂ hp₂->Q .next m₂ (hp₂.del it)))
  (hE:PassesOwn (model PW W0) A env E:=by first | exact PassesOwn.never | assumption)
  (hs:∀ x,foldedSetIterable iter env x=pure x:=by intro _;rfl) :
  EX (model PW W0) A E B env (.For target iter body [] pos) m hp Q:=λs r=>by
 refine wpAny_For (h.use r λu sY o hpY rY leY hu x=>?_) hs;refine hide λ_ Z=>?_;obtain ⟨rg,ob,a,b,rfl,hrg,hrL,⟨t,u',v',rfl⟩,ha,ha',hb,hb',x⟩:=x;apply Z;clear Z;simp only[VR]at hu;subst hu;have hro:=(rY.at hrg hrL).1;refine wpAny_pyIter_range hro (small_one ha ha' hb hb') ?_;refine hide λ_ Z=>?_;have n:=rY.newAt { cls:=.type "range_iterator",data:=.fields #[rawInt a,rawInt (Builtin.Range.rangeSize a b 1),rawInt 1] } (.obj { cls:=.type "range_iterator",data:=.fields #[rawInt a,rawInt (Builtin.Range.rangeSize a b 1),rawInt 1] }) ⟨Heap.get?_push_size _ rfl,λi=>by obtain ⟨_,_,_,e⟩:=i;cases e⟩;obtain ⟨I,h0,hset,turn,fin⟩:=x _ n.2.1 n.2.2.1;apply Z;clear Z;have hsz:Builtin.Range.rangeSize a b 1=((b - a).toNat:Int):=by rw[rangeSize_one];split <;> (first | exact F02 0x73781987707813a 0x110011010011010 rfl ‹_› | exact F02 0x73049877207813a 0x1000100110001110 rfl ‹_›)
 refine Zdo (n:=(b - a).toNat) (el:=λi=>.int (a + i)) (st:=λi ob=>ob={ cls:=.type "range_iterator",dict:=none,data:=.fields #[rawInt (a + i),rawInt ((b - a).toNat - i),rawInt 1],slots:=#[] }) (I:=I) (Q:=Q) (s₀:=s) n.2.2.1 (λi ob x i'=>by obtain ⟨_,_,_,e⟩:=i';rw[x]at e;cases e) (λi m₂ hp₂ s' ob hi hI hob hst r' E' W k=>?_) (λm₂ hp₂ s' ob hI hob hst r' E' W k=>?_) hset turn fin
  (λfl af m' hp' s' r' le' hf q=>mkX (af:=af) r' le' hf q) (h0 _) (Hp.ss ..) (by rw[hsz];simp) n.1 (leY.trans n.2.2.2) (λ_ _ x=>⟨"range_iterator",congrArg Obj.cls x,rfl⟩) hE
 .subst hst;have hg:s'.heap.get? sY.heap.objs.size=some _:=(r'.at hob n.2.2.1).1;refine wpAny_pyNext_range_item (x:=a + i) (left:=(b - a).toNat - i) (step:=1) hg (by (exact F20 0x738310478740 0x11 rfl hi)) λh' hit' hs'=>?_
  exact k _ h' _ _ VR_int hit' (by
   have e1:a + (i:Int) + 1=a + ((i + 1:Nat):Int):=by push_cast;lia
   have e2:(((b - a).toNat:Int) - i - 1)=((b - a).toNat - ((i + 1:Nat):Int)):=by push_cast;(exact F20 0x683073168373119 0x11 rfl)
   rw[e1,e2]) hs'
 .subst hst;have hg:s'.heap.get? sY.heap.objs.size=some _:=(r'.at hob n.2.2.1).1;exact wpAny_pyNext_range_end hh (x:=a + (b - a).toNat) (left:=(b - a).toNat - (b - a).toNat) (step:=1) hg (by (exact F10 0x4737318 0x1 rfl)) λh' he=>k h' s'.toks he
end
mutual
inductive RD (B:Shared) (hp:Hp) (L:Addr):AV->PyData->Prop
 | none:RD B hp L .none .none
 | bool (b):RD B hp L (.bool b) (.bool b)
 | int (i):RD B hp L (.int i) (.int i)
 | str (x):RD B hp L (.str x) (.str x)
 | tup {xs ds}:RDs B hp L xs ds->RD B hp L (.tup xs) (.tuple ds)
 | list {a xs ds}:Lst B hp L a xs->RDs B hp L xs ds->RD B hp L (.ref a) (.list ds)
inductive RDs (B:Shared) (hp:Hp) (L:Addr):List AV->List PyData->Prop
 | nil:RDs B hp L [] []
 | cons {x xs d ds}:RD B hp L x d->RDs B hp L xs ds->RDs B hp L (x :: xs) (d :: ds)
end
section
variable {K:Frag}
mutual
theorem RD.reads {s:Shared} (r:Rel B (hp.set env.locals (.ns m)) s) {x:AV}{d:PyData}{v:Value} (h:RD B hp env.locals x d) (hv:VR s.heap x v):∃ as,Reads s.heap v d as:=by
 cases h with
 | none=>simp only[VR]at hv;subst hv;exact ⟨_,.none⟩
 | bool b=>simp only[VR]at hv;subst hv;exact ⟨_,.bool b⟩
 | int i=>simp only[VR]at hv;obtain ⟨t,rfl⟩:=hv;exact ⟨_,.int i t⟩
 | str x=>simp only[VR]at hv;obtain ⟨t,rfl⟩:=hv;exact ⟨_,.str x t⟩
 | tup h=>
  refine hide λ_ Z=>?_;simp only[VR]at hv;obtain ⟨a,vs,rfl,⟨o,ho,hc,n,hd⟩,hvs⟩:=hv;obtain ⟨as,ra⟩:=RDs.reads r h hvs;apply Z;clear Z;exact ⟨_,.tuple ho hc hd ra⟩
 | list hl h=>
  refine hide λ_ Z=>?_;simp only[VR]at hv;subst hv;obtain ⟨vs,⟨o,ho,hc,n,hd⟩,hvs⟩:=r.lst hl;obtain ⟨as,ra⟩:=RDs.reads r h hvs;apply Z;clear Z;exact ⟨_,.list ho hc hd ra⟩
theorem RDs.reads {s:Shared} (r:Rel B (hp.set env.locals (.ns m)) s) {xs:List AV}{ds:List PyData}{vs:List Value} (h:RDs B hp env.locals xs ds) (hv:VRs s.heap xs vs):∃ as,ReadsAll s.heap vs ds as:=by
 cases h with
 | nil=>simp only[VRs]at hv;subst hv;exact ⟨_,.nil⟩
 | cons h1 h2=>
  refine hide λ_ Z=>?_;simp only[VRs]at hv;obtain ⟨v,r',rfl,e1,e2⟩:=hv;obtain ⟨as,ra⟩:=RD.reads r h1 e1;obtain ⟨bs,rb⟩:=RDs.reads r h2 e2;apply Z;clear Z;exact ⟨_,.cons ra rb⟩
end
theorem Zm9 {a b:AV}{da db:PyData}{Q:QV} (ha:RD B hp env.locals a da) (hb:RD B hp env.locals b db) (sa:SeqAt.shaped da=true) (sb:SeqAt.shaped db=true) (hu:A.units + 64 < cLine) (h:Q (.bool (!PyData.eqv da db)) hp) :
  OP2 (model PW W0) A E B env (compareOp .NotEq) m a b hp Q:=λs u v r hu' hv=>by
 obtain ⟨as,ra⟩:=ha.reads r hu';obtain ⟨bs,rb⟩:=hb.reads r hv;exact SeqAt.compareNe_shaped ra rb sa sb hu ⟨_,hp,r,.refl _,VR_bool,h⟩
theorem Zht {t b o:Expr} {pos}{Q:QV} (h:TST (model PW W0) A E B env t m hp λc hp'=>if c then EV (model PW W0) A E B env b m hp' Q else EV (model PW W0) A E B env o m hp' Q):EV (model PW W0) A E B env (.IfExp t b o pos) m hp Q:=λs r=>by
 refine wpAny_IfExp (useT (h s r) λc s' hp' r' le q=>?_);cases c
 .exact useV (q s' r') λv s'' av hp'' r'' le' hv q=>mkV r'' (le.trans le') hv q
 .exact useV (q s' r') λv s'' av hp'' r'' le' hv q=>mkV r'' (le.trans le') hv q
end
theorem Zfn {a b:String} (h:PySem.Str.ofString a=PySem.Str.ofString b):a=b:=by
 rw[PySem.Str.ofString_eq_byList]at h;unfold PySem.Str.ofStringByList at h;have h1:(a.toList.map Char.toNat).toArray=(b.toList.map Char.toNat).toArray:=PySem.Str.mk.inj h;have h2:a.toList.map Char.toNat=b.toList.map Char.toNat:=by simpa using h1
 apply String.toList_injective;have inj:∀ {x y:List Char},x.map Char.toNat=y.map Char.toNat->x=y:=by
  intro x
  induction x with
  | nil=>intro y h;cases y with | nil=>rfl | cons _ _=>simp at h
  | cons c x ih=>
   intro y h;cases y with
   | nil=>simp at h
   | cons d y=>
    simp only[List.map_cons,List.cons.injEq]at h;rw[ih h.2];congr 1;exact Char.toNat_inj.mp h.1
 exact inj h2
theorem ug (m:Loc) (a b:String) (v:AV):upd m (PySem.Str.ofString a) v (PySem.Str.ofString b)=if b=a then some v else m (PySem.Str.ofString b):=by
 unfold upd;by_cases h:b=a
 .simp [h]
 .have:PySem.Str.ofString b≠PySem.Str.ofString a:=λe=>h (Zfn e);simp[h,this]
theorem upT {m:Loc}{a:String}{v:AV}:upd m (S a) v (S a)=some v:=by rw[ug,if_pos rfl]
theorem upN {m:Loc}{a b:String}{v:AV}{r:Option AV} (h:b≠a) (g:m (S b)=r):upd m (S a) v (S b)=r:=by rw[ug,if_neg h,g]
noncomputable def Hp.Le (hp hp':Hp):Prop:=∀ a o,hp a=some o->hp' a=some o
theorem Hp.Le.refl (hp:Hp):Hp.Le hp hp:=λ_ _ e=>e
theorem Hp.Le.trans {a b c:Hp} (x:Hp.Le a b) (y:Hp.Le b c):Hp.Le a c:=λp o e=>y p o (x p o e)
theorem Hp.Le.set {hp hp':Hp} (x:Hp.Le hp hp') {a:Addr} (h:hp a=none) (o:AO):Hp.Le hp (hp'.set a o):=λb ob e=>by
 have:b≠a:=λe'=>by rw[e',h]at e;cases e
 exact Hp.snt this (x b ob e)
theorem Hp.Le.del {hp hp':Hp} (x:Hp.Le hp hp') {a:Addr} (h:hp a=none):Hp.Le hp (hp'.del a):=λb ob e=>by
 have:b≠a:=λe'=>by rw[e',h]at e;cases e
 simp only[Hp.del,this,if_false];exact x b ob e
theorem Hp.Le.none {hp hp':Hp} (x:Hp.Le hp hp') {a:Addr} (h:hp' a=none):hp a=none:=by
 cases e:hp a with
 | none=>rfl
 | some o=>rw[x a o e]at h;cases h
theorem Hp.del_ne (hp:Hp) {a b:Addr} (h:b≠a):(hp.del a) b=hp b:=by simp[Hp.del,h]
theorem Hp.ne_of {hp:Hp}{a b:Addr}{o:AO} (h:hp a=some o) (h':hp b=none):a≠b:=λe=>by rw[e,h']at h;cases h
theorem Lst.le {B:Shared}{hp hp':Hp}{L a:Addr}{xs:List AV} (x:Lst B hp L a xs) (le:Hp.Le hp hp'):Lst B hp' L a xs:=by
 rcases x with ⟨h,hL⟩ | h
 .exact .inl ⟨le _ _ h,hL⟩
 .exact .inr h
theorem Lst.call {B:Shared}{hp:Hp}{L L' a:Addr}{xs:List AV}{m:Loc} (x:Lst B hp L a xs) (hL':hp L'=none):Lst B (hp.set L (.ns m)) L' a xs:=by
 rcases x with ⟨h,hL⟩ | h
 .exact .inl ⟨Hp.snt hL h,λe=>by rw[e,hL']at h;cases h⟩
 .exact .inr h
section
variable {K:Frag}
noncomputable abbrev Zmf (Q:QV):AV->Hp->Prop:=λv hp'=>∃ i,v = .int i/\Q (.int (-i)) hp'
theorem Zge {x:Expr} {pos}{Q:QV} (h:EV (model PW W0) A E B env x m hp (Zmf Q)):EV (model PW W0) A E B env (.UnaryOp .USub x pos) m hp Q:=λs r=>by refine wpAny_UnaryOp (h.use r λu sY v hpY rY leY hu yq=>?_);obtain ⟨i,e,q⟩:=yq;subst e;simp only[VR]at hu;obtain ⟨t,rfl⟩:=hu;exact PySem.P.neg_int ⟨_,hpY,rY.toks _,leY,VR_int,q⟩
end
section
variable {M:Model}{A:Around}{E:ET}{B:Shared}{env:Env}{m:Loc}{hp:Hp}{K:Frag}
theorem EV.mono {e:Expr}{Q Q':QV} (h:EV M A E B env e m hp Q) (k:∀ v hp',Q v hp'->Q' v hp'):EV M A E B env e m hp Q':=λs r=>
 useV (h s r) λ_ _ av hp' r' le hv q=>⟨av,hp',r',le,hv,k _ _ q⟩
theorem EX.mono {st:Stmt}{Q Q':QX} (h:EX M A E B env st m hp Q) (k:∀ f m' hp',Q f m' hp'->Q' f m' hp'):EX M A E B env st m hp Q':=λs r=>
 useX (h s r) λ_ _ af m' hp' r' le hv q=>⟨af,m',hp',r',le,hv,k _ _ _ q⟩
theorem EXs.mono {st:List Stmt}{Q Q':QX} (h:EXs M A E B env st m hp Q) (k:∀ f m' hp',Q f m' hp'->Q' f m' hp'):EXs M A E B env st m hp Q':=λs r=>
 useX (h s r) λ_ _ af m' hp' r' le hv q=>⟨af,m',hp',r',le,hv,k _ _ _ q⟩
theorem Zod {st:Stmt}{rest:List Stmt}{Q:QX} (Mid:Loc->Hp->Prop) (h1:EX M A E B env st m hp λf m' hp'=>f = .next/\Mid m' hp') (h2:∀ m' hp',Mid m' hp'->EXs M A E B env rest m' hp' Q) :
  EXs M A E B env (st :: rest) m hp Q:=Zac (h1.mono λf m' hp' ⟨e,x⟩=>by subst e;exact h2 m' hp' x)
end
theorem sz {n:Nat} (h:Nat.ble n 1000=true):n<=sizeLine:=by have:=sizeLine_eq;have:=Nat.le_of_ble_eq_true h;(exact Nat.le_trans ‹_› (by decide))
theorem sz' {n:Nat} (h:n<=5000):n<=sizeLine:=by have:=sizeLine_eq;(exact Nat.le_trans ‹_› (by decide))
section
variable {K:Frag}
structure Ins (hp:Hp) (L x dx C:Addr) (ma:Loc):Prop where
 ob:hp x=some (.obj (instObj C dx))
 at_:hp dx=some (.atr ma)
 xL:x≠L
 dL:dx≠L
theorem Ins.le {hp':Hp}{L x dx C:Addr}{ma:Loc} (I:Ins hp L x dx C ma) (le:Hp.Le hp hp'):Ins hp' L x dx C ma:=⟨le _ _ I.ob,le _ _ I.at_,I.xL,I.dL⟩
theorem Ins.xd {L x dx C:Addr}{ma:Loc} (I:Ins hp L x dx C ma):x≠dx:=λe=>by have:=I.ob;rw[e,I.at_]at this;cases this
theorem Zje {o:Obj}{es:Array DictEntry}{ep:Nat}{mv:PySem.Str->Option Value} (hd:o.data = .dict es ep) (hk:StrKeys es) (hm:∀ name,nsFind es name=mv name) (name:PySem.Str):lookIn name o=some (mv name):=by
 unfold lookIn;rw[hd,<-hm name];unfold nsFind findBy;rw[<-Array.find?_toList];dsimp only;cases h:es.toList.find? (λe=>e.key.isStr name) with
 | some en=>rfl
 | none=>
  have:es.toList.any (·.refKey)=false:=by rw[List.any_eq_false];intro en hen;obtain ⟨n,t,hn⟩:=hk en (by simpa using hen);unfold DictEntry.refKey;rw[hn];simp
  simp[this]
theorem Rel.ins {s:Shared} (r:Rel B (hp.set env.locals (.ns m)) s) {x dx C:Addr}{ma:Loc} (I:Ins hp env.locals x dx C ma) :
  ∃ od mv,InstAt s.heap x (instObj C dx) C (some od)/\s.heap.Ns1 dx mv/\LocR s.heap ma mv/\Within mv attrNames/\∀ name,lookIn name od=some (mv name):=by
 refine hide λ_ Z=>?_;obtain ⟨h1,_⟩:=r.at I.ob I.xL;obtain ⟨mv,hn,hm,hw⟩:=r.at I.at_ I.dL;have hn':=hn;obtain ⟨o,es,ep,ho,hd,hk,_,hf⟩:=hn';apply Z;clear Z;exact ⟨o,mv,⟨h1,rfl,rfl,ho⟩,hn,hm,hw,Zje hd hk hf⟩
structure Cls (K:Frag) (C:Addr):Prop where
 ga:findIn K (.ref C) "__getattribute__" = some (some (.builtin "object.__getattribute__"))
 gk:findIn K (.ref C) "__getattr__" = some none
 hd:(clsIn K C).any (·.hasDict)=true
 sa:findIn K (.ref C) "__setattr__" = some (some (.builtin "object.__setattr__"))
 po:plainOver K C=true
theorem Zkh {h:Heap}{a:AV}{v:Value} (hv:VR h a v) (hb:∀ n,a≠.bi n):handedIn v=true:=by
 cases a with
 | bi n=>exact absurd rfl (hb n)
 | none=>simp only[VR]at hv;subst hv;rfl
 | bool _=>simp only[VR]at hv;subst hv;rfl
 | int _=>simp only[VR]at hv;obtain ⟨_,rfl⟩:=hv;rfl
 | str _=>simp only[VR]at hv;obtain ⟨_,rfl⟩:=hv;rfl
 | flt _=>simp only[VR]at hv;obtain ⟨_,rfl⟩:=hv;rfl
 | ref _=>simp only[VR]at hv;subst hv;rfl
 | ty _=>simp only[VR]at hv;subst hv;rfl
 | tup _=>simp only[VR]at hv;obtain ⟨_,_,rfl,_⟩:=hv;rfl
 | mat _=>simp only[VR]at hv;obtain ⟨_,_,rfl,_⟩:=hv;rfl
noncomputable abbrev Zko (env:Env) (name:PySem.Str) (C:Addr) (Q:QV):AV->Hp->Prop:=λv hpY=>∃ x dx ma u,v = .ref x/\Ins hpY env.locals x dx C ma/\ma name=some u/\(∀ n,u≠.bi n)/\Q u hpY
theorem Zks {o:Expr}{name:PySem.Str} {pos}{C:Addr}{Q:QV} (G:Gnd K B) (P:Cls K C) (hno:findIn K (.ref C) name=some none)
  (h:EV (model PW W0) A E B env o m hp (Zko env name C Q))
  (he:eval (.Attribute o name pos) env=(do
   let ov <-eval o env
   standAt pos.atName
   let r <-holding [ov] (getAttr ov name true)
   letTemporaryGo o ov r
   pure r):=by with_unfolding_all rfl) (ht:∀ ov r,letTemporaryGo o ov r=pure ():=by intro _ _;rfl) :
  EV (model PW W0) A E B env (.Attribute o name pos) m hp Q:=λs r=>by
 rw[he];refine wB (h.use r λv sY av hpY rY leY hv x=>wB (wpAny_standAt (wB (wpAny_holding ?_))));refine hide λ_ Z=>?_;obtain ⟨x,dx,ma,u,rfl,I,hu,hb,q⟩:=x;simp only[VR]at hv;subst hv;obtain ⟨od,mv,IA,hn,hm,hw,hl⟩:=rY.ins I;obtain ⟨uv,huv,hvr⟩:=hm.1 name u hu;obtain ⟨cd,hc,hd⟩:=any_some P.hd;apply Z;clear Z;have hf:findObj K C (some od) name=some (.value uv):=by unfold findObj;rw[hc,Option.bind_some,hno];simp only[Option.bind_some,W.ownOf,hd,if_true,hl,huv]
 refine get_value (G.X.keeps rY.keep) IA P.ga hf (Zkh hvr hb) ?_;refine wB ?_;rw[ht];exact wP (wP (mkV (rY.toks _) leY hvr q))
noncomputable abbrev Zkn (PW:Program) (W0:World) (A:Around) (E:ET) (B:Shared) (env:Env) (m:Loc) (e:Expr) (name:PySem.Str) (rest:List Expr) (C:Addr) (f:Addr) (Q:QV):AV->Hp->Prop:=λv hpY=>∃ x dx ma,v = .ref x/\Ins hpY env.locals x dx C ma/\ma name=none/\EVS (model PW W0) A E B env (e :: rest) m hpY λvs hp₂=>CL (model PW W0) A E B env (.ref f) m (.ref x :: vs) hp₂ Q
theorem Zfc {o e:Expr}{name:PySem.Str}{rest:List Expr} {apos pos}{pl:Sem Bool}{C f:Addr}{Q:QV} (G:Gnd K B) (P:Cls K C) (hf:findIn K (.ref C) name=some (some (.ref f))) (ht:typeIn K (.ref f)=some (.type "function")) (hk:keepIn K (.ref f)=true)
  (h:EV (model PW W0) A E B env o m hp (Zkn PW W0 A E B env m e name rest C f Q))
  (hc:autoParam (eval (.Call (.Attribute o name apos) (e :: rest) [] pos) env=(do
   let ov <-eval o env
   standAt apos.atName
   let (f,first) <-holding [ov] (getMethod ov name pl)
   callWith pos f first (backTo pos (starEach (e :: rest) env)) [])) rB)
  (he:autoParam (starEach (e :: rest) env=(false,eval e env) :: starEach rest env) rB) (hplain:autoParam ((backTo pos (starEach rest env)).any (·.1)=false) rB) :
  EV (model PW W0) A E B env (.Call (.Attribute o name apos) (e :: rest) [] pos) m hp Q:=λs r=>by
 refine MethodCall_ (pl:=pl) (h.use r λu sY l hpY rY leY hu x=>?_) hc;refine hide λ_ Z=>?_;obtain ⟨x,dx,ma,rfl,I,hno,q⟩:=x;simp only[VR]at hu;subst hu;obtain ⟨od,mv,IA,hn,hm,hw,hl⟩:=rY.ins I;apply Z;clear Z;refine method_fn (G.X.keeps rY.keep) IA P.ga P.gk hf ht (by unfold shadowIn;simp[hl,hm.2 name hno]) ?_;refine callWith_K (K:=K) G.X hk (Zcu (q pos sY rY) λvs s₂ avs hp₂ r₂ le₂ hv q=>?_) he hplain;refine ⟨G.X.keeps r₂.keep,?_⟩;refine useV (q s₂ (.ref x :: vs) r₂ (by simp only[VRs];exact ⟨_,_,rfl,VR_ref,hv⟩)) λv s₃ av hp₃ r₃ le₃ hv q=>mkV r₃ ((leY.trans le₂).trans le₃) hv q
noncomputable abbrev Zid (PW:Program) (W0:World) (A:Around) (E:ET) (B:Shared) (env:Env) (m:Loc) (name:PySem.Str) (C:Addr) (f:Addr) (Q:QV):AV->Hp->Prop:=λv hpY=>∃ x dx ma,v = .ref x/\Ins hpY env.locals x dx C ma/\ma name=none/\CL (model PW W0) A E B env (.ref f) m [.ref x] hpY Q
theorem Zmj {o:Expr}{name:PySem.Str} {apos pos}{pl:Sem Bool}{C f:Addr}{Q:QV} (G:Gnd K B) (P:Cls K C) (hf:findIn K (.ref C) name=some (some (.ref f))) (ht:typeIn K (.ref f)=some (.type "function")) (hk:keepIn K (.ref f)=true)
  (h:EV (model PW W0) A E B env o m hp (Zid PW W0 A E B env m name C f Q))
  (hc:autoParam (eval (.Call (.Attribute o name apos) [] [] pos) env=(do
   let ov <-eval o env
   standAt apos.atName
   let (f,first) <-holding [ov] (getMethod ov name pl)
   callWith pos f first (backTo pos (starEach [] env)) [])) rB) :
  EV (model PW W0) A E B env (.Call (.Attribute o name apos) [] [] pos) m hp Q:=λs r=>by
 refine MethodCall_ (pl:=pl) (h.use r λu sY l hpY rY leY hu x=>?_) hc;refine hide λ_ Z=>?_;obtain ⟨x,dx,ma,rfl,I,hno,q⟩:=x;simp only[VR]at hu;subst hu;obtain ⟨od,mv,IA,hn,hm,hw,hl⟩:=rY.ins I;apply Z;clear Z;refine method_fn (G.X.keeps rY.keep) IA P.ga P.gk hf ht (by unfold shadowIn;simp[hl,hm.2 name hno]) ?_;refine callWith_K0 (K:=K) (G.X.keeps rY.keep) hk ?_;refine useV (q sY [.ref x] rY (VRs.one VR_ref)) λv s₃ av hp₃ r₃ le₃ hv q=>mkV r₃ (leY.trans le₃) hv q
noncomputable abbrev Zin (env:Env) (m:Loc) (name:PySem.Str) (C:Addr) (u:AV) (Q:Loc->Hp->Prop):AV->Hp->Prop:=λv hpY=>∃ x dx ma,v = .ref x/\Ins hpY env.locals x dx C ma/\Q m (hpY.set dx (.atr (upd ma name u)))
theorem Zmq {o:Expr}{name:PySem.Str} {pos}{C:Addr}{u:AV}{Q:Loc->Hp->Prop} (G:Gnd K B) (P:Cls K C) (ht:takerIn K C name=some none) (ha:name ∈ attrNames)
  (h:EV (model PW W0) A E B env o m hp (Zin env m name C u Q)) :
  ASG (model PW W0) A E B env (.Attribute o name pos) u m hp Q:=λs v r hv=>by
 rw[assign_Attribute];refine wB (wpAny_holding (h.use r λov sY av hpY rY leY hov x=>wB (wpAny_standAt (wB (wpAny_holding ?_)))));refine hide λ_ Z=>?_;obtain ⟨x,dx,ma,rfl,I,q⟩:=x;simp only[VR]at hov;subst hov;obtain ⟨od,mv,IA,hn,hm,hw,hl⟩:=rY.ins I;apply Z;clear Z;have hvY:=hv.mono leY;have X:=G.X.keeps rY.keep;refine set_plain X IA P.sa (osa_open (s:={ sY with toks:=sY.toks + 1 }) X IA P.po ht λb=>?_);refine hide λ_ Z=>?_;obtain ⟨cd,hc,hd⟩:=any_some P.hd;apply Z;clear Z;refine wB (wP (wB (wB (wpAny_loadPart IA.at_ (wB (looks_clsIn X hc _ _ _ _ (λ_ _ e=>e) ?_))))));rw[hd];refine wP (a:=some dx) (wB (wP (wB (wpAny_nsSet1 (s:={ sY with toks:=sY.toks + 1 }) hn λh' hn' hs=>?_))));refine hide λ_ Z=>?_;have hw':Within (λx=>if x=name then some v else mv x) attrNames:=λy hy=>by
  by_cases e:y=name
  .rw [e];exact ha
  .exact hw y (by simpa [e] using hy)
 obtain ⟨oD,esD,epD,hoD,hdD,hcD⟩:=hn'.count hw';apply Z;clear Z;refine wB (wpAny_lookBehind hoD (by rw[hdD];exact pastItsLine_dict (Nat.le_trans hcD (by decide))) ?_);refine wP ?_;have t:=rY.turn (a:=dx) (Hp.snt I.dL I.at_) hs (.atr (upd ma name u)) (λle=>⟨_,hn',LocR.upd (hm.mono le) (hvY.mono le),hw'⟩) (sY.toks + 1 + 1);rw[Hp.sc _ _ _ (Ne.symm I.dL)]at t;exact wpAny_release ⟨m,_,t.1,leY.trans t.2,q⟩
end
section
variable {K:Frag}
theorem Zoq {C fI:Addr}{avs:List AV}{Q:QV} (G:Gnd K B) (hm:makesIn K C=true) (hi:findIn K (.ref C) "__init__" = some (some (.ref fI))) (hf:typeIn K (.ref fI)=some (.type "function"))
  (h:∀ x dx vs,hp x=none->hp dx=none->x≠dx->x≠env.locals->dx≠env.locals ->
   CD (model PW W0) (A.under (.builtin "type.__call__" ⟨.ref C :: vs,[]⟩)) E B env (.ref fI) m (.ref x :: avs) ((hp.set dx (.atr λ_=>none)).set x (.obj (instObj C dx))) λv hp'=>v = .none/\Q (.ref x) hp') :
  CL (model PW W0) A E B env (.ref C) m avs hp Q:=λs vs r hv=>by
 refine wpAny_call ?_;refine hide λ_ Z=>?_;have n1:=r.newAt emptyDict (.atr λ_=>none) ⟨λ_=>none,Heap.Ns1.of_empty (Heap.Ns.new s.heap (.type "dict")),⟨λx v e=>by simp at e,λx _=>rfl⟩,λy hy=>absurd rfl hy⟩;have n2:=Rel.newAt n1.1 (instObj C s.heap.objs.size) (.obj (instObj C s.heap.objs.size)) ⟨Heap.get?_push_size _ rfl,λi=>by obtain ⟨_,xs,n,e⟩:=i;cases e⟩;have hsz:(s.heap.push emptyDict).objs.size=s.heap.objs.size + 1:=Heap.size_push ..;simp only[hsz]at n2;have hx0:hp (s.heap.objs.size + 1)=none:=by have:=n2.2.1;rw[Hp.sn _ _ (Nat.succ_ne_self _)]at this;exact this
 have hh:=h (s.heap.objs.size + 1) s.heap.objs.size vs hx0 n1.2.1 (Nat.succ_ne_self _) n2.2.2.1 n1.2.2.1;obtain ⟨heap,g,d,t,os⟩:=s;apply Z;clear Z;refine make_core (makes_of (G.X.keeps r.keep) hm) (looks_findIn (G.X.keeps r.keep) hi) (λself=>bind_fn (G.X.keeps r.keep) self hf) (.inl rfl) ?_;refine codeAny_mono (hh _ (.ref (heap.objs.size + 1) :: vs) n2.1 (by simp only[VRs];exact ⟨_,_,rfl,VR_ref,hv.mono (n1.2.2.2.trans n2.2.2.2)⟩)) λr s' z=>?_;rcases r with e | (v | _ | _ | _) <;> first | exact z | exact z.elim | skip
 refine hide λ_ Z=>?_;obtain ⟨av,hp',r',le',hv',rfl,q⟩:=z;apply Z;clear Z;simp only[VR]at hv';subst hv';exact ⟨rfl,.ref (heap.objs.size + 1),hp',r',(n1.2.2.2.trans n2.2.2.2).trans le',VR_ref,q⟩
noncomputable abbrev Zii (PW:Program) (W0:World) (A:Around) (E:ET) (B:Shared) (env:Env) (m:Loc) (e:Expr) (rest:List Expr) (f:Addr) (Q:QV):AV->Hp->Prop:=λv hpY=>v = .ref f/\EVS (model PW W0) A E B env (e :: rest) m hpY λvs hp₂=>CL (model PW W0) A E B env (.ref f) m vs hp₂ Q
theorem Zhu {func e:Expr}{rest:List Expr} {pos}{f:Addr}{Q:QV} (G:Gnd K B) (hk:keepIn K (.ref f)=true)
  (h:EV (model PW W0) A E B env func m hp (Zii PW W0 A E B env m e rest f Q))
  (hc:autoParam (eval (.Call func (e :: rest) [] pos) env=(do callWith pos (<-eval func env) [] (backTo pos (starEach (e :: rest) env)) (backToKw pos (keywordEach [] env)))) rB)
  (he:autoParam (starEach (e :: rest) env=(false,eval e env) :: starEach rest env) rB) (hplain:autoParam ((backTo pos (starEach rest env)).any (·.1)=false) rB) :
  EV (model PW W0) A E B env (.Call func (e :: rest) [] pos) m hp Q:=λs r=>by
 refine Call_ (h.use r λu sY v hpY rY leY hu yq=>?_) hc;obtain ⟨hf,q⟩:=yq;subst hf;simp only[VR]at hu;subst hu;refine callWith_K (K:=K) G.X hk (Zcu (q pos sY rY) λvs s₂ avs hp₂ r₂ le₂ hv q=>⟨G.X.keeps r₂.keep,?_⟩) he hplain;exact useV (q s₂ vs r₂ hv) λv s₃ av hp₃ r₃ le₃ hv q=>mkV r₃ ((leY.trans le₂).trans le₃) hv q
theorem Zma {Q:Bool->Hp->Prop} (h:Q false hp):TRU (model PW W0) A E B env m .none hp Q:=λs u r hu=>by simp only[VR]at hu;subst hu;exact PyProof.Rows.truthy_none ⟨hp,r,.refl _,h⟩
theorem Rel.grown {s:Shared} (r:Rel B (hp.set env.locals (.ns m)) s) {h':Heap} (k:∀ b o,s.heap.get? b=some o->h'.get? b=some o) (t:Nat):Rel B (hp.set env.locals (.ns m)) { s with heap:=h',toks:=t }/\ImmLe s.heap h':=by refine ⟨⟨λb o e=>k b o (r.keep b o e),λa o e=>⟨(r.objs a o e).1,(r.objs a o e).2.here (ImmLe.keep k) λo' e'=>k _ _ e'⟩,r.os,r.bare,?_⟩,ImmLe.keep k⟩;trivial
end
noncomputable def RET (L:Addr) (env:Env) (m:Loc) (Q:QV):AF->Loc->Hp->Prop:=λfl _ hp'=>∃ hp₂:Hp,Hp.Le (hp₂.set env.locals (.ns m)) hp'/\hp₂ L=none/\Q (Zd6 fl) hp₂
theorem Ins.call {hp:Hp}{L L' x dx C:Addr}{ma m:Loc} (I:Ins hp L x dx C ma) (h:hp L'=none):Ins (hp.set L (.ns m)) L' x dx C ma:=
 ⟨Hp.snt I.xL I.ob,Hp.snt I.dL I.at_,Hp.ne_of I.ob h,Hp.ne_of I.at_ h⟩
theorem Ins.put {hp:Hp}{L x dx C:Addr}{ma ma':Loc} (I:Ins hp L x dx C ma):Ins (hp.set dx (.atr ma')) L x dx C ma':=
 ⟨Hp.snt I.xd I.ob,Hp.ss ..,I.xL,I.dL⟩
theorem Lst.put {B:Shared}{hp:Hp}{L a b:Addr}{xs:List AV}{o:AO} (x:Lst B hp L a xs) (h:∀ ys,hp b≠some (.list ys)):Lst B (hp.set b o) L a xs:=by
 rcases x with ⟨e,hL⟩ | e
 .exact .inl ⟨Hp.snt (λe'=>by subst e';exact h _ e) e,hL⟩
 .exact .inr e
section
variable {K:Frag}
theorem Zff {f:Addr}{fd:FuncData}{body:List Stmt}{avs:List AV}{bs:List (PySem.Str × AV)}{Q:QV} (G:Gnd K B) (ho:K.lookup f=some ⟨.type "function",none,.func fd,#[]⟩) (hcd:codeIn K fd.code fd.qualname=true)
  (hbody:fd.body = .stmts body) (hroom:A.depth < recursionLimit)
  (hbind:∀ s vs,VRs s.heap avs vs->(∀ b o,B.heap.get? b=some o->s.heap.get? b=some o)->∃ us:List (PySem.Str × Value),BindsTo s fd ⟨vs,[]⟩ us/\us.reverse.map (·.1)=bs.map (·.1)/\VRs s.heap (bs.map (·.2)) (us.reverse.map (·.2)))
  (hloc:bs.all (λx=>fd.scope.names.lookup x.1 == some .local)=true) (hcell:∀ x ∈ fd.scope.names,x.2≠.cell)
  (h:∀ L,hp L=none->L≠env.locals->EXs (model PW W0) (A.deeper (callEnv fd L f)) (λ_ _=>False) B (callEnv fd L f) body (locOf bs) (hp.set env.locals (.ns m)) (RET L env m Q))
  (hco:autoParam (fd.scope.isCoroutine=false) rB) (hgen:autoParam (fd.scope.isGenerator=false) rB) (hk:autoParam (fd.scope.kind = .function) rB) :
  CD (model PW W0) A E B env (.ref f) m avs hp Q:=
 Zqi G ho rfl hcd hbody hroom hbind hloc hcell (λL hL hLe=>(h L hL hLe).mono λfl m' hp' ⟨hp₂,le,hn,q⟩=>⟨hp₂,λa o e=>⟨le a o e,λe'=>by subst e';rw[Hp.sn _ _ hLe,hn]at e;cases e⟩,q⟩) hco hgen hk
noncomputable abbrev Zga (PW:Program) (W0:World) (A:Around) (E:ET) (B:Shared) (env:Env) (m:Loc) (o:Expr) (name:PySem.Str) (Q:QX) (pos':Pos):AV->Hp->Prop:=λv hpY=>ASG (model PW W0) A E B env (.Attribute o name pos') v m hpY λm₂ hp₂=>Q .next m₂ hp₂
theorem Zb2 {o value:Expr}{name:PySem.Str} {pos' pos}{Q:QX}
  (h:EV (model PW W0) A E B env value m hp (Zga PW W0 A E B env m o name Q pos'))
  (hs:autoParam (swapsWith value (some (.Attribute o name pos')) pos.line env=pure false) rB):EX (model PW W0) A E B env (.Assign [.Attribute o name pos'] value pos) m hp Q:=λs r=>by
 rw[plainObj_exec_Assign_Attribute o name pos' value pos hs];refine wB (wpAny_standAt (wB (h.use r λu sY v hpY rY leY hu q=>wB ?_)));exact useA (q sY u rY hu) λ_ s₂ m₂ hp₂ r₂ le₂ q=>wP (mkX (af:=.next) r₂ (leY.trans le₂) rfl q)
theorem Zem {x:PySem.Str} {k p pos}{Q:QX} (h:Q .next m hp) (hi:autoParam (interactive env=false) rB) (hs:autoParam (swapsWith (.Constant (.str x) k p) none pos.line env=pure false) rB) :
  EX (model PW W0) A E B env (.Expr (.Constant (.str x) k p) pos) m hp Q:=Zcg (Zcr ⟨by simp,by simp,by simp,h⟩) hi hs
theorem Zcn {L:Addr}{Q:QV}{fl:AF}{m':Loc} {hp₂ hp':Hp} (le:Hp.Le (hp₂.set env.locals (.ns m)) hp') (hn:hp₂ L=none) (q:Q (Zd6 fl) hp₂):RET L env m Q fl m' hp':=⟨hp₂,le,hn,q⟩
theorem Zcv {L:Addr}{Q:QV}{fl:AF}{m':Loc} (hL:hp L=none) (q:Q (Zd6 fl) hp):RET L env m Q fl m' (hp.set env.locals (.ns m)):=⟨hp,.refl _,hL,q⟩
theorem Znm {L dx:Addr}{o:AO}{Q:QV}{fl:AF}{m':Loc} (hL:hp L=none) (hd:dx≠env.locals) (hdL:dx≠L) (q:Q (Zd6 fl) (hp.set dx o)):RET L env m Q fl m' ((hp.set env.locals (.ns m)).set dx o):=
 ⟨hp.set dx o,by rw[Hp.sc _ _ _ hd];exact .refl _,Hp.snt (Ne.symm hdL) hL,q⟩
end
section
variable {K:Frag}
theorem ASG.mono {M:Model}{t:Expr}{x:AV}{Q Q':Loc->Hp->Prop} (h:ASG M A E B env t x m hp Q) (k:∀ m' hp',Q m' hp'->Q' m' hp'):ASG M A E B env t x m hp Q':=λs v r hv=>
 useA (h s v r hv) λ_ _ m' hp' r' le q=>mkA r' le (k _ _ q)
end
section
variable {A:Around}{B:Shared}{env:Env}{m:Loc}{hp:Hp} {h0:Heap}{Cn:Con}{F:Hp->Prop}{n:Nat}{c:Code}{fs:List Frame}{K:Flow->Sem Fin}{H:Value->Sem Fin}
end
section
variable {A:Around}{B:Shared}{env:Env}{m:Loc}{hp:Hp} {h0:Heap}{Cn:Con}{F:Hp->Prop}{n:Nat}{c:Code}{fs:List Frame}{K:Flow->Sem Fin}{H:Value->Sem Fin}
end
section
variable {h0:Heap}{L:Addr}{Cn:Con}{F:Hp->Prop}{n:Nat}
end
section
variable {A:Around}{E:ET}{s:Shared}{R:Result->Shared->Prop}
end
section
variable {K:Frag}
end
section
variable {K:Frag}
end
section
variable {K:Frag}
theorem Znb {a b:Int}{Q:QV} (hh:A.handled=none) (h:Q (.int (if b > a then b else a)) hp):CL (model PW W0) A E B env (.builtin "max") m [.int a,.int b] hp Q:=λs vs r hv=>by obtain ⟨v,u,rfl,h1,h2⟩:=Zbs hv;simp only[VR]at h1 h2;obtain ⟨t,rfl⟩:=h1;obtain ⟨t',rfl⟩:=h2;refine PySem.max_two_ints hh λh' tk k=>?_;obtain ⟨r',le⟩:=r.grown k tk;refine mkV r' le (?_) h;split <;> exact VR_int
theorem Zhv {a b:Int}{Q:QV} (hh:A.handled=none) (h:Q (.int (if b < a then b else a)) hp):CL (model PW W0) A E B env (.builtin "min") m [.int a,.int b] hp Q:=λs vs r hv=>by obtain ⟨v,u,rfl,h1,h2⟩:=Zbs hv;simp only[VR]at h1 h2;obtain ⟨t,rfl⟩:=h1;obtain ⟨t',rfl⟩:=h2;refine PySem.min_two_ints hh λh' tk k=>?_;obtain ⟨r',le⟩:=r.grown k tk;refine mkV r' le (?_) h;split <;> exact VR_int
end
section
variable {A:Around}{E:ET}{s:Shared}
end
section
variable {K:Frag}
end
section
variable {A:Around}{B:Shared}{env:Env}{m:Loc}{hp:Hp} {h0:Heap}{Cn:Con}{F:Hp->Prop}{n:Nat}{c:Code}{fs:List Frame}{K:Flow->Sem PySem.Fin}{H:Value->Sem PySem.Fin}
end
section
variable {K:Frag}
noncomputable def TSTs (M:Model) (A:Around) (E:ET) (B:Shared) (env:Env) (ifs:List Expr) (m:Loc) (hp:Hp) (Q:Bool->Hp->Prop):Prop:=
 ∀ s,Rel B (hp.set env.locals (.ns m)) s->wpAny M A (forIn ifs true λc r=>if r=true then do let ok <-isTrue c env (eval c env);pure (ForInStep.yield ok) else pure (ForInStep.yield r)) (PT B env.locals m s.heap Q) E s
theorem Ze6 {Q:Bool->Hp->Prop} (h:Q true hp):TSTs (model PW W0) A E B env [] m hp Q:=λs r=>wpAny_tests_nil ⟨hp,r,.refl _,h⟩
theorem Zl9 {c:Expr}{Q:Bool->Hp->Prop} (h:TST (model PW W0) A E B env c m hp Q):TSTs (model PW W0) A E B env [c] m hp Q:=λs r=>wpAny_tests_one (h s r)
end
section
variable {K:Frag}
end
noncomputable def Zax (id:String) (a:Addr):Obj:={ cls:=.type "builtin_function_or_method",data:=.fields #[.builtin id,.ref a] }
theorem bndOb_notImm {id:String}{a:Addr}:¬ Imm (Zax id a):=by rintro ⟨_,_,_,e⟩;cases e
theorem Zfs:entryFor table "method_descriptor.__get__" = some Builtin.«method_descriptor.__get__»:=entryFor_of_tree (by kernel_rfl)
theorem mdg_slot:Slot "method_descriptor" "__get__" "method_descriptor.__get__" :=
 .of (owner := "method_descriptor") (n := "__get__") (by rw[typeLookup_type,builtinLookup_eq_fast];kernel_rfl) (by decide +kernel) (by decide +kernel) (by decide +kernel)
  (by first | exact .inl (by decide +kernel) | exact .inr (by decide +kernel)) (by rw[isSubtype_type];kernel_rfl)
theorem Zhe (a b c:Value):argsOk "method_descriptor.__get__" ⟨[a,b,c],[]⟩:=by unfold argsOk;kernel_rfl
theorem Zln:typeLookup (.type "method_descriptor") (PySem.Str.ofString "__set__")=pure none:=by rw[typeLookup_type,builtinLookup_eq_fast];kernel_rfl
theorem Zlo:typeLookup (.type "method_descriptor") (PySem.Str.ofString "__delete__")=pure none:=by rw[typeLookup_type,builtinLookup_eq_fast];kernel_rfl
structure BndOk (T:String) (name:PySem.Str) (id gid:String):Prop where
 slot:Slot T name id
 ty:typeOf (.builtin id)=pure (.type "method_descriptor")
 ga:Slot T "__getattribute__" gid
 gn:(Value.builtin gid == Value.builtin "object.__getattribute__")=false
 ge:entryFor table gid=some Builtin.«object.__getattribute__»
 gargs:∀ x y,argsOk gid ⟨[x,y],[]⟩
 hook:typeLookup (.type T) (PySem.Str.ofString "__getattr__")=pure none
 plainName:((["__module__", "__name__", "__qualname__", "__doc__", "__annotations__"]:List PySem.Str).contains name)=false
 told:Manifest.toldItsClass.contains id=false
section
variable {A:Around}{E:ET}{s:Shared}
theorem Zlj {T:String}{name:PySem.Str}{id gid:String}{a:Addr}{o:Obj}{Q:Builtin.ObjectAttr.Found->Shared->Prop} (b:BndOk T name id gid) (ho:s.heap.get? a=some o) (hc:o.cls = .type T) (hd:o.dict=none) (hn:∀ c,o.data≠.cls c)
  (h:Q (.bind (.builtin "method_descriptor.__get__") (.builtin id)) s):wpAny (model PW W0) A (Builtin.ObjectAttr.find (.ref a) (.type T) name) Q E s:=by
 unfold Builtin.ObjectAttr.find;refine wB (wpAny_of_eq b.slot.lookup (wB ?_));show wpAny _ _ (specialOf (.builtin id) "__get__") _ _ s;unfold specialOf;refine wB (wpAny_of_eq b.ty (wpAny_of_eq mdg_slot.lookup ?_));refine wB ?_;show wpAny _ _ (Builtin.ObjectAttr.takesStores (.builtin id) >>= _) _ _ s;refine wB ?_;unfold Builtin.ObjectAttr.takesStores specialOf;refine wB (wB (wpAny_of_eq b.ty (wpAny_of_eq Zln ?_)));simp only[Option.isSome_none,Bool.false_eq_true,if_false];refine wB (wB (wpAny_of_eq b.ty (wpAny_of_eq Zlo ?_)));refine wP ?_;simp only[Option.isSome_none,Bool.false_eq_true,if_false];refine wP ?_;dsimp only;unfold Builtin.ObjectAttr.ownThenClass;refine wB ?_;show wpAny _ _ (Builtin.ObjectAttr.ownDict a >>= _) _ _ s;refine wB ?_;unfold Builtin.ObjectAttr.ownDict loadHead;refine wB (wpAny_loadPart ho ?_);have hin:wpAny (model PW W0) A (instanceDict a false) (λd s'=>d=none/\s'=s) E s:=by unfold instanceDict;refine wB (wpAny_loadPart ho ?_);rw[hc,hd];exact wP ⟨rfl,rfl⟩
 have fin:wpAny (model PW W0) A (Builtin.ObjectAttr.inDict name none) (λr s'=>wpAny (model PW W0) A (match r with | some v=>(do rule "getattr.instance-dict";pure (.value v)) | none=>(do Builtin.ObjectAttr.copiedAttributeGuard name (.ref a);Builtin.ObjectAttr.byTheClass (some (.builtin id)) (some (.builtin "method_descriptor.__get__")))) Q E s') E s:=by refine wP ?_;dsimp only;refine wB ?_;unfold Builtin.ObjectAttr.copiedAttributeGuard;dsimp only;rw[b.plainName];refine wP ?_;exact wB (wpAny_rule (wP h))
 have post:∀ d s',d=none/\s'=s->wpAny (model PW W0) A (Builtin.ObjectAttr.inDict name d) (λr s'=>wpAny (model PW W0) A (match r with | some v=>(do rule "getattr.instance-dict";pure (.value v)) | none=>(do Builtin.ObjectAttr.copiedAttributeGuard name (.ref a);Builtin.ObjectAttr.byTheClass (some (.builtin id)) (some (.builtin "method_descriptor.__get__")))) Q E s') E s':=by rintro d s' ⟨rfl,rfl⟩;exact fin
 obtain ⟨oc,od,odt,osl⟩:=o;cases odt with
 | cls c=>exact absurd rfl (hn c)
 | _=>exact wpAny_mono hin post λ_ _ x=>x
theorem Zcw {T:String}{name:PySem.Str}{id gid:String}{a:Addr}{o:Obj}{Q:ET} (b:BndOk T name id gid) (ho:s.heap.get? a=some o) (hc:o.cls = .type T) (hd:o.dict=none) (hn:∀ c,o.data≠.cls c)
  (hck:∀ {s:Shared}{o:Obj}{Q:ET},s.heap.get? a=some o->o.cls = .type T->Q (.ref s.heap.objs.size) { s with heap:=s.heap.push (Zax id a) }->wpAny (model PW W0) A.in1 (call (.builtin "method_descriptor.__get__") [.builtin id,.ref a,.type T]) Q (λ_ _=>False) s)
  (h:Q (.ref s.heap.objs.size) { s with heap:=s.heap.push (Zax id a),toks:=s.toks + 1 }):wpAny (model PW W0) A (getAttr (.ref a) name true) Q E s:=by
 unfold getAttr;refine wB (wpAny_mkText ?_);unfold getAttrBy;have hT:({ s with toks:=s.toks + 1 }:Shared).TypeIs (.ref a) T:=⟨o,ho,hc⟩;refine wpAny_holding (wB (wpAny_typeOf hT (wB (wpAny_of_eq b.ga.lookup ?_))));dsimp only [onTheHeap];simp only[Bool.false_and,Bool.false_eq_true,if_false];unfold getAttrByItsOwn hookBefore;dsimp only [onTheHeap];simp only[Bool.false_eq_true,if_false];refine wB (wP (wB (wpAny_attempt (wpAny_holding ?_))));unfold callGetattribute;dsimp only [onTheHeap];simp only[Bool.and_false,Bool.false_eq_true,if_false];unfold boundAndCalled;refine wB (wpAny_of_eq (b.ga.bind _) ?_);refine wpAny_call_entry b.ga hT b.ge ?_ (b.gargs _ _);unfold Builtin.«object.__getattribute__»;refine wB (wpAny_of_eq (a:=(.ref a,[.str name s.toks])) rfl ?_);dsimp only;refine wB (wpAny_of_eq (a:=name) rfl (wB (wpAny_typeOf hT (wB (Zlj (s:={ s with toks:=s.toks + 1 }) b ho hc hd hn ?_)))));dsimp only;unfold Builtin.ObjectAttr.bindTo;refine wB (wpAny_holding (wpAny_mono (hck (s:={ s with toks:=s.toks + 1 }) ho hc (Q:=λv s'=>v = .ref s.heap.objs.size/\s'={ s with heap:=s.heap.push (Zax id a),toks:=s.toks + 1 }) ⟨rfl,rfl⟩) (λv s' x=>?_) λ_ _ x=>x.elim));obtain ⟨rfl,rfl⟩:=x;refine wP ⟨_,rfl,?_⟩;exact wP h

theorem Zfr {a:Addr}{s:Shared}{o:Obj}{Q:ET} (ho:s.heap.get? a=some o) (hc:o.cls = .type "dict") (h:Q (.ref s.heap.objs.size) { s with heap:=s.heap.push (Zax "dict.get" a) }) :
  wpAny (model PW W0) A (call (.builtin "method_descriptor.__get__") [.builtin "dict.get",.ref a,.type "dict"]) Q E s:=by
 have hty:typeOf (.builtin "dict.get")=pure (.type "method_descriptor"):=by show builtinType _=_;rw[builtinType_eq_fast];kernel_rfl
 refine wpAny_call_entry mdg_slot hty Zfs ?_ (Zhe _ _ _);unfold Builtin.«method_descriptor.__get__»;refine wB (wpAny_of_eq (a:=(.builtin "dict.get",some (.ref a),some (.type "dict"))) (by first | rfl | kernel_rfl) ?_);dsimp only;rw[show Manifest.toldItsClass.contains "dict.get" = false from by decide +kernel];simp only[Bool.false_eq_true,if_false];refine wB (m:=_) ?_;refine wB (wpAny_of_eq (a:=(PySem.Str.ofString "get",.type "dict")) (by first | rfl | kernel_rfl) ?_);dsimp only;refine wB (wpAny_isInstance (T := "dict") (b:=true) ⟨o,ho,hc⟩ (by rw[isSubtype_type];kernel_rfl) ?_);simp only[Bool.not_true,Bool.false_eq_true,if_false];refine wP ?_;unfold newFields;refine wB (wpAny_newObj_type (wP ⟨_,rfl,h⟩))
theorem Zl6:BndOk "dict" (PySem.Str.ofString "get") "dict.get" "dict.__getattribute__" where
 gn:=by decide +kernel
 ge:=entryFor_alias (id' := "object.__getattribute__") (by kernel_rfl) rfl (by decide +kernel) (by kernel_rfl)
 gargs:=λ_ _=>by unfold argsOk;kernel_rfl
 slot:=.of (owner := "dict") (n := "get") (by rw[typeLookup_type,builtinLookup_eq_fast];kernel_rfl) (by decide +kernel) (by decide +kernel) (by decide +kernel)
  (by first | exact .inl (by decide +kernel) | exact .inr (by decide +kernel)) (by rw[isSubtype_type];kernel_rfl)
 ty:=by show builtinType _=_;rw[builtinType_eq_fast];kernel_rfl
 ga:=.of (owner := "dict") (n := "__getattribute__") (by rw[typeLookup_type,builtinLookup_eq_fast];kernel_rfl) (by decide +kernel) (by decide +kernel) (by decide +kernel)
  (by first | exact .inl (by decide +kernel) | exact .inr (by decide +kernel)) (by rw[isSubtype_type];kernel_rfl)
 hook:=by rw[typeLookup_type,builtinLookup_eq_fast];kernel_rfl
 plainName:=by decide +kernel
 told:=by decide +kernel

theorem Zeu {a:Addr}{s:Shared}{o:Obj}{Q:ET} (ho:s.heap.get? a=some o) (hc:o.cls = .type "set") (h:Q (.ref s.heap.objs.size) { s with heap:=s.heap.push (Zax "set.__contains__" a) }) :
  wpAny (model PW W0) A (call (.builtin "method_descriptor.__get__") [.builtin "set.__contains__",.ref a,.type "set"]) Q E s:=by
 have hty:typeOf (.builtin "set.__contains__")=pure (.type "method_descriptor"):=by show builtinType _=_;rw[builtinType_eq_fast];kernel_rfl
 refine wpAny_call_entry mdg_slot hty Zfs ?_ (Zhe _ _ _);unfold Builtin.«method_descriptor.__get__»;refine wB (wpAny_of_eq (a:=(.builtin "set.__contains__",some (.ref a),some (.type "set"))) (by first | rfl | kernel_rfl) ?_);dsimp only;rw[show Manifest.toldItsClass.contains "set.__contains__" = false from by decide +kernel];simp only[Bool.false_eq_true,if_false];refine wB (m:=_) ?_;refine wB (wpAny_of_eq (a:=(PySem.Str.ofString "__contains__",.type "set")) (by first | rfl | kernel_rfl) ?_);dsimp only;refine wB (wpAny_isInstance (T := "set") (b:=true) ⟨o,ho,hc⟩ (by rw[isSubtype_type];kernel_rfl) ?_);simp only[Bool.not_true,Bool.false_eq_true,if_false];refine wP ?_;unfold newFields;refine wB (wpAny_newObj_type (wP ⟨_,rfl,h⟩))
theorem Zj8:BndOk "set" (PySem.Str.ofString "__contains__") "set.__contains__" "set.__getattribute__" where
 gn:=by decide +kernel
 ge:=entryFor_alias (id' := "object.__getattribute__") (by kernel_rfl) rfl (by decide +kernel) (by kernel_rfl)
 gargs:=λ_ _=>by unfold argsOk;kernel_rfl
 slot:=.of (owner := "set") (n := "__contains__") (by rw[typeLookup_type,builtinLookup_eq_fast];kernel_rfl) (by decide +kernel) (by decide +kernel) (by decide +kernel)
  (by first | exact .inl (by decide +kernel) | exact .inr (by decide +kernel)) (by rw[isSubtype_type];kernel_rfl)
 ty:=by show builtinType _=_;rw[builtinType_eq_fast];kernel_rfl
 ga:=.of (owner := "set") (n := "__getattribute__") (by rw[typeLookup_type,builtinLookup_eq_fast];kernel_rfl) (by decide +kernel) (by decide +kernel) (by decide +kernel)
  (by first | exact .inl (by decide +kernel) | exact .inr (by decide +kernel)) (by rw[isSubtype_type];kernel_rfl)
 hook:=by rw[typeLookup_type,builtinLookup_eq_fast];kernel_rfl
 plainName:=by decide +kernel
 told:=by decide +kernel

end
theorem IPairs.pairs:∀ {es:List DictEntry}{ps:List (Int × Value)},IPairs es ps->Pairs (intKind PW W0) es ps
 | [],ps,h=>by simp only[IPairs]at h;subst h;exact .nil
 | e :: es,ps,h=>by simp only[IPairs]at h;obtain ⟨kv,r,rfl,h1,h2,h3⟩:=h;exact .cons h1 h2 (IPairs.pairs h3)
theorem IPairs.of {es:List DictEntry}{ps:List (Int × Value)} (h:Pairs (intKind PW W0) es ps):IPairs es ps:=by
 induction h with
 | nil=>simp[IPairs]
 | cons h1 h2 _ ih=>simp only[IPairs];exact ⟨_,_,rfl,h1,h2,ih⟩
theorem IDict.of {h:Heap}{a:Addr}{ps:List (Int × Value)} (x:h.DictOf (intKind PW W0) a ps):IDict h a ps:=
 x.imp λ_=>.imp λ_=>.imp λ_=>.imp_right (.imp_right (.imp_right (.imp_right (.imp_left IPairs.of))))
theorem IDict.dictOf {h:Heap}{a:Addr}{ps:List (Int × Value)} (x:IDict h a ps) (_:Program) (_:World):h.DictOf (intKind PW W0) a ps:=
 x.imp λ_=>.imp λ_=>.imp λ_=>.imp_right (.imp_right (.imp_right (.imp_right (.imp_left (·.pairs)))))
noncomputable def dget (kvs:List (Int × AV)) (k:Int):Option AV:=(kvs.find? λkv=>kv.1=k).map (·.2)
noncomputable def dput (kvs:List (Int × AV)) (k:Int) (v:AV):List (Int × AV):=
 if kvs.any (λkv=>kv.1=k) then kvs.map (λkv=>if kv.1=k then (kv.1,v) else kv) else kvs ++ [(k,v)]
noncomputable def KVR (h:Heap) (kvs:List (Int × AV)) (ps:List (Int × Value)):Prop:=ps.map (·.1)=kvs.map (·.1)/\VRs h (kvs.map (·.2)) (ps.map (·.2))
theorem KVR.mono {h h':Heap} (le:ImmLe h h') {kvs:List (Int × AV)}{ps:List (Int × Value)} (x:KVR h kvs ps):KVR h' kvs ps:=⟨x.1,x.2.mono le⟩
theorem KVR.length {h:Heap}{kvs:List (Int × AV)}{ps:List (Int × Value)} (x:KVR h kvs ps):ps.length=kvs.length:=by have:=congrArg List.length x.1;simpa using this
theorem KVR.cons {h:Heap}{k:Int}{v:AV}{kvs:List (Int × AV)}{ps:List (Int × Value)} (x:KVR h ((k,v) :: kvs) ps):∃ u r,ps=(k,u) :: r/\VR h v u/\KVR h kvs r:=by
 refine hide λ_ Z=>?_;obtain ⟨h1,h2⟩:=x;apply Z;clear Z;cases ps with
 | nil=>simp at h1
 | cons p r=>
  refine hide λ_ Z=>?_;obtain ⟨k',u⟩:=p;simp only[List.map_cons,List.cons.injEq,VRs]at h1 h2;obtain ⟨u',r',⟨rfl,rfl⟩,h3,h4⟩:=h2;obtain ⟨rfl,h5⟩:=h1;apply Z;clear Z;exact ⟨_,_,rfl,h3,h5,h4⟩
theorem KVR.mk_cons {h:Heap}{k:Int}{v:AV}{u:Value}{kvs:List (Int × AV)}{ps:List (Int × Value)} (hv:VR h v u) (x:KVR h kvs ps):KVR h ((k,v) :: kvs) ((k,u) :: ps):=
 ⟨by simp[x.1],by simp only[List.map_cons,VRs];exact ⟨_,_,rfl,hv,x.2⟩⟩
theorem KVR.get {h:Heap}{k:Int}:∀ {kvs:List (Int × AV)}{ps:List (Int × Value)},KVR h kvs ps->(∀ v,dget kvs k=some v->∃ u,valueAt ps k=some u/\VR h v u)/\(dget kvs k=none->valueAt ps k=none):=by
 intro r_
 induction r_ with
 | nil=>
  intro ps x;have:ps=[]:=by have:=x.length;exact List.length_eq_zero_iff.mp this
  subst this;exact ⟨λv e=>by simp[dget]at e,λ_=>rfl⟩
 | cons kv_ kvs ih=>
  obtain ⟨k',v'⟩:=kv_;intro ps x;refine hide λ_ Z=>?_;obtain ⟨u,r,rfl,hv,x'⟩:=x.cons;apply Z;clear Z;have ih:=ih x';by_cases e:k'=k
  .simp only [dget,valueAt,List.find?_cons,e,decide_true,if_true,Option.map_some,Option.some.injEq]at ih ⊢;exact ⟨λv hv'=>⟨u,rfl,hv' ▸ hv⟩,λh=>by cases h⟩
  .simp only [dget,valueAt,List.find?_cons,e,decide_false]at ih ⊢;exact ih
theorem KVR.any {h:Heap}{k:Int}:∀ {kvs:List (Int × AV)}{ps:List (Int × Value)},KVR h kvs ps->(ps.any λkv=>decide (kv.1=k))=(kvs.any λkv=>decide (kv.1=k))
 | [],ps,x=>by
  have:ps=[]:=by have:=x.length;exact List.length_eq_zero_iff.mp this
  subst this;rfl
 | (k',v') :: kvs,ps,x=>by obtain ⟨u,r,rfl,hv,x'⟩:=x.cons;simp only[List.any_cons,KVR.any x']
theorem KVR.append {h:Heap}{k:Int}{v:AV}{u:Value} (hv:VR h v u):∀ {kvs:List (Int × AV)}{ps:List (Int × Value)},KVR h kvs ps->KVR h (kvs ++ [(k,v)]) (ps ++ [(k,u)]):=by
 intro r_
 induction r_ with
 | nil=>
  intro ps x;have:ps=[]:=by have:=x.length;exact List.length_eq_zero_iff.mp this
  subst this;exact KVR.mk_cons hv ⟨rfl,by simp[VRs]⟩
 | cons kv_ kvs ih=>
  obtain ⟨k',v'⟩:=kv_;intro ps x;obtain ⟨u,r,rfl,hv',x'⟩:=x.cons;exact KVR.mk_cons hv' (ih x')
theorem KVR.map {h:Heap}{k:Int}{v:AV}{u:Value} (hv:VR h v u):∀ {kvs:List (Int × AV)}{ps:List (Int × Value)},KVR h kvs ps ->
  KVR h (kvs.map λkv=>if kv.1=k then (kv.1,v) else kv) (ps.map λkv=>if kv.1=k then (kv.1,u) else kv):=by
 intro r_
 induction r_ with
 | nil=>
  intro ps x;have:ps=[]:=by have:=x.length;exact List.length_eq_zero_iff.mp this
  subst this;exact ⟨rfl,by simp[VRs]⟩
 | cons kv_ kvs ih=>
  obtain ⟨k',v'⟩:=kv_;intro ps x;refine hide λ_ Z=>?_;obtain ⟨u,r,rfl,hv',x'⟩:=x.cons;apply Z;clear Z;simp only[List.map_cons];by_cases e:k'=k
  .simp only [e,if_true];exact KVR.mk_cons hv (ih x')
  .simp only [e,if_false];exact KVR.mk_cons hv' (ih x')
theorem KVR.put {h:Heap}{k:Int}{v:AV}{u:Value} (hv:VR h v u) {kvs:List (Int × AV)}{ps:List (Int × Value)} (x:KVR h kvs ps):KVR h (dput kvs k v) (PySem.stored ps k u):=by
 unfold dput PySem.stored;rw[x.any];split
 .exact x.map hv
 .exact x.append hv
section
variable {A:Around}{E:ET}{s:Shared}
theorem Zdj {d:Addr}{ps:List (Int × Value)}{k:Int}{key dflt:Value}{Q:ET} (hkey:Value.isInt k key=true) (hm:s.heap.DictOf (intKind PW W0) d ps)
  (hthere:∀ v,valueAt ps k=some v->Q v { s with toks:=s.toks + 1 })
  (hnew:valueAt ps k=none->∀ h',h'.DictOf (intKind PW W0) d (ps ++ [(k,dflt)])->Heap.SameBut d s.heap h'->Q dflt { s with heap:=h',toks:=s.toks + 1 })
  (hz:ps.length<=sizeLine) :
  wpAny (model PW W0) A (dictSetDefault d key dflt) Q E s:=by
 refine hide λ_ Z=>?_;obtain ⟨o,es,ep,ho,hc,hd,hk,hp,hn⟩:=hm;apply Z;clear Z;have hkey':(intKind PW W0).is k key=true:=hkey;have hes:es.size<=sizeLine:=by
  have e1:=hp.length;have e2:es.toList.length=es.size:=by simp
  (exact F40 0x8a5a96079608750 0x110011 rfl hz e1 e2)
 unfold dictSetDefault;refine wpAny_holding ?_;refine wB ((intKind PW W0).pyHash hkey' ?_);refine wB (wpAny_dictFind_of (s:={ s with toks:=s.toks + 1 }) hkey' ho hd hk ?_);have hidx:(es.findIdx? λe=>(intKind PW W0).is k e.key)=ps.findIdx? λkv=>decide (kv.1=k):=by rw[<-hp.findIdx k];obtain ⟨l⟩:=es;simp
 cases hi:es.findIdx? λe=>(intKind PW W0).is k e.key with
 | some i=>
  refine hide λ_ Z=>?_;have hl:(es.toList.findIdx? λe=>(intKind PW W0).is k e.key)=some i:=by rw[<-hi];obtain ⟨l⟩:=es;simp
  obtain ⟨e,he,hek,hev⟩:=hp.at hl;apply Z;clear Z;refine wB (wpAny_dictEntries (s:={ s with toks:=s.toks + 1 }) ho hd ?_);have he':es[i]?=some e:=by rw[<-he];obtain ⟨l⟩:=es;simp
  rw[he'];exact wB (wpAny_rule (wP (hthere e.val hev)))
 | none=>
  have hnot:k ∉ ps.map (·.1):=not_mem_of_findIdx_none (hidx ▸ hi);have hfk:valueAt ps k=none:=by unfold valueAt;rw[List.find?_eq_none.mpr];rfl;intro x hx;simp only[decide_eq_true_eq];exact λe=>hnot (List.mem_map.mpr ⟨x,hx,e⟩)
  refine wB (wpAny_rule (wB (wpAny_updateDictKeys (hz:=hes) (s:={ s with toks:=s.toks + 1 }) ho hd (wP (hnew hfk _ ⟨_,_,ep + 1,Heap.get?_update_self _ ho (Obj.isFreed_of_dict (Obj.data_mapDictKeys hd _)), hc.mapDictKeys _,Obj.data_mapDictKeys hd _,hk.push hkey' _,?_,?_⟩ (Heap.SameBut.update ..))))))
  .have:=hp.append hkey' ((intKind PW W0).hash k) dflt;obtain ⟨l⟩:=es
   simpa using this
  .rw [List.map_append,List.nodup_append];refine ⟨hn,by simp,?_⟩;intro a ha b hb;simp only[List.map_cons,List.map_nil,List.mem_singleton]at hb;subst hb;exact λe=>hnot (e ▸ ha)
end
section
variable {K:Frag}
theorem Rel.notSys {s:Shared} (r:Rel B hp s) (G:Gnd K B) {d:Addr}{o:AO} (h:hp d=some o):(d == sysModules)=false:=by
 have h1:=(r.objs d o h).1;obtain ⟨ob,h2⟩:=G.sys;have:d≠sysModules:=λe=>by rw[e]at h1;exact noE h1 h2
 simpa using this
theorem Rel.dict {s:Shared} (r:Rel B (hp.set env.locals (.ns m)) s) {d:Addr}{kvs:List (Int × AV)} (h:hp d=some (.dict kvs)) (hL:d≠env.locals):∃ ps,(∀ (_:Program) (_:World),s.heap.DictOf (intKind PW W0) d ps)/\KVR s.heap kvs ps:=by refine hide λ_ Z=>?_;obtain ⟨ps,h1,h2,h3⟩:=r.at h hL;apply Z;clear Z;exact ⟨ps,λPW W0=>h1.dictOf PW W0,h2,h3⟩
theorem Rel.putDict {s:Shared} (r:Rel B (hp.set env.locals (.ns m)) s) {d:Addr}{kvs kvs':List (Int × AV)} (h:hp d=some (.dict kvs)) (hL:d≠env.locals) {h':Heap}{ps':List (Int × Value)} (hd:h'.DictOf (intKind PW W0) d ps') (hs:Heap.SameBut d s.heap h') (hk:ImmLe s.heap h'->KVR h' kvs' ps') (t:Nat) :
  Rel B ((hp.set d (.dict kvs')).set env.locals (.ns m)) { s with heap:=h',toks:=t }/\ImmLe s.heap h':=by
 have x:=r.turn (a:=d) (Hp.snt hL h) hs (.dict kvs') (λle=>⟨ps',IDict.of hd,(hk le).1,(hk le).2⟩) t;rw[Hp.sc _ _ _ (Ne.symm hL)]at x;exact x
theorem Zfd {pos}{Q:QV} (h:∀ a,hp a=none->a≠env.locals->Q (.ref a) (hp.set a (.dict []))):EV (model PW W0) A E B env (.Dict [] [] pos) m hp Q:=λs r=>by have n:=r.newAt { cls:=.type "dict",data:=.dict #[] } (.dict []) ⟨[],IDict.of (Heap.DictOf.new (knd:=intKind PW W0) s.heap),rfl,by simp[VRs]⟩;exact wpAny_Dict_empty ⟨.ref _,_,n.1,n.2.2.2,VR_ref,h _ n.2.1 n.2.2.1⟩
theorem Zcj {h:Heap}{k:Int}{v:Value} (hv:VR h (.int k) v):Value.isInt k v=true:=by simp only[VR]at hv;obtain ⟨t,rfl⟩:=hv;simp[Value.isInt]
theorem Zk0 {o i:Expr} {pos}{v:AV}{Q:Loc->Hp->Prop}
  (h:EV (model PW W0) A E B env o m hp λov hpY=>EV (model PW W0) A E B env i m hpY λiv hp₂=>∃ d kvs k,ov = .ref d/\iv = .int k/\hp₂ d=some (.dict kvs)/\d≠env.locals/\kvs.length<=5000/\Q m (hp₂.set d (.dict (dput kvs k v)))):ASG (model PW W0) A E B env (.Subscript o i pos) v m hp Q:=λs u r hu=>by
 rw[assign_Subscript];refine wB (wpAny_holding (h.use r λov sY av hpY rY leY hov q=>wB (wpAny_holding (q.use rY λiv s₂ bv hp₂ r₂ le₂ hiv x=>wB (wpAny_standAt (wB (wpAny_holding ?_)))))));refine hide λ_ Z=>?_;obtain ⟨d,kvs,k,rfl,rfl,hd,hL,hlen,q⟩:=x;have hki:=Zcj hiv;simp only[VR]at hov;subst hov;obtain ⟨ps,hD,hK⟩:=r₂.dict hd hL;apply Z;clear Z;have hu₂:=hu.mono (leY.trans le₂);refine wpAny_setItem_pairs (knd:=intKind PW W0) (k:=k) hki (hD PW W0) (λh' hD' hs'=>?_) (by rw[hK.length];have:=sizeLine_eq;(exact Nat.le_trans ‹_› (by decide)));have x:=r₂.putDict (kvs':=dput kvs k v) hd hL hD' hs' (λle=>KVR.put (hu₂.mono le) (hK.mono le)) (s₂.toks + 1);exact wpAny_release ⟨m,_,x.1,(leY.trans le₂).trans x.2,q⟩
theorem Zc0 {o e:Expr}{rest:List Expr}{name:PySem.Str}{id T:String} {apos pos}{pl:Sem Bool}{Q:QV} (slot:Slot T name id) (hty:typeOf (.builtin id)=pure (.type "method_descriptor")) (hpl:PlainAttrs T)
  (h:EV (model PW W0) A E B env o m hp λl hpY=>∃ a,l = .ref a/\(∀ s,Rel B (hpY.set env.locals (.ns m)) s->∃ ob,s.heap.get? a=some ob/\ob.cls = .type T/\ob.dict=none)/\EVS (model PW W0) A E B env (e :: rest) m hpY λvs hp₂=>CL (model PW W0) A E B env (.builtin id) m (.ref a :: vs) hp₂ Q)
  (hc:autoParam (eval (.Call (.Attribute o name apos) (e :: rest) [] pos) env=(do
   let ov <-eval o env
   standAt apos.atName
   let (f,first) <-holding [ov] (getMethod ov name pl)
   callWith pos f first (backTo pos (starEach (e :: rest) env)) [])) rB)
  (he:autoParam (starEach (e :: rest) env=(false,eval e env) :: starEach rest env) rB) (hplain:autoParam ((backTo pos (starEach rest env)).any (·.1)=false) rB) :
  EV (model PW W0) A E B env (.Call (.Attribute o name apos) (e :: rest) [] pos) m hp Q:=λs r=>by
 refine MethodCall_ (pl:=pl) (h.use r λu sY l hpY rY leY hu x=>?_) hc;refine hide λ_ Z=>?_;obtain ⟨a,rfl,ht,q⟩:=x;simp only[VR]at hu;subst hu;obtain ⟨ob,ho,hcl,hdn⟩:=ht sY rY;apply Z;clear Z;refine getMethod_builtin ⟨ob,ho,hcl⟩ hpl slot hty (λb e=>by cases e;exact ⟨ob,ho,hdn⟩) ?_;refine callWith_method1 (Zcu (q pos sY rY) λvs s₂ avs hp₂ r₂ le₂ hv q=>?_) he hplain;exact useV (q s₂ (.ref a :: vs) r₂ (by simp only[VRs];exact ⟨_,_,rfl,VR_ref,hv⟩)) λv s₃ av hp₃ r₃ le₃ hv q=>mkV r₃ ((leY.trans le₂).trans le₃) hv q
theorem Zew {d:Addr}{kvs:List (Int × AV)} (hd:hp d=some (.dict kvs)) (hL:d≠env.locals):∀ s,Rel B (hp.set env.locals (.ns m)) s->∃ ob,s.heap.get? d=some ob/\ob.cls = .type "dict" /\ ob.dict=none:=λs r=>by refine hide λ_ Z=>?_;obtain ⟨ps,⟨o,es,ep,ho,hc,_⟩,_⟩:=r.at hd hL;apply Z;clear Z;exact ⟨o,ho,hc.1,hc.2.1⟩
theorem Zow {d:Addr}{kvs:List (Int × AV)}{k:Int}{dv:AV}{Q:QV} (G:Gnd K B) (hd:hp d=some (.dict kvs)) (hL:d≠env.locals) (h:Q ((dget kvs k).getD dv) hp):CL (model PW W0) A E B env (.builtin "dict.get") m [.ref d,.int k,dv] hp Q:=λs vs r hv=>by
 obtain ⟨v,u,x,rfl,h1,h2,h3⟩:∃ u v x,vs=[u,v,x]/\VR s.heap (.ref d) u/\VR s.heap (.int k) v/\VR s.heap dv x:=by simp only[VRs]at hv;obtain ⟨v,r,rfl,h1,u,r',rfl,h2,z,r'',rfl,h3,rfl⟩:=hv;exact ⟨_,_,_,rfl,h1,h2,h3⟩
 have hki:=Zcj h2;simp only[VR]at h1;subst h1;obtain ⟨ps,hD,hK⟩:=r.dict hd hL;refine call_meetsIn F.slot_dict_get (hD PW W0).typeIs F.entry_dict_get (F.args_dict_get_3 _ _ _) (meets_dict_get_default (intKind PW W0) d (k:=k) hki (r.notSys G (Hp.snt hL hd)) x) ⟨_,(hD PW W0).mapOf,?_⟩;refine mkV (r.toks _) (.refl _) (?_) h;have hg:=hK.get (k:=k);cases e:dget kvs k with
 | none=>rw[hg.2 e];exact h3
 | some y=>obtain ⟨z,hz,hyz⟩:=hg.1 y e;rw[hz];exact hyz
theorem Zed {d:Addr}{kvs:List (Int × AV)}{k:Int}{dv:AV}{Q:QV} (G:Gnd K B) (hd:hp d=some (.dict kvs)) (hL:d≠env.locals) (hlen:kvs.length<=5000)
  (h:Q ((dget kvs k).getD dv) (if (dget kvs k).isSome then hp else hp.set d (.dict (kvs ++ [(k,dv)])))):CL (model PW W0) A E B env (.builtin "dict.setdefault") m [.ref d,.int k,dv] hp Q:=λs vs r hv=>by
 obtain ⟨v,u,x,rfl,h1,h2,h3⟩:∃ u v x,vs=[u,v,x]/\VR s.heap (.ref d) u/\VR s.heap (.int k) v/\VR s.heap dv x:=by simp only[VRs]at hv;obtain ⟨v,r,rfl,h1,u,r',rfl,h2,z,r'',rfl,h3,rfl⟩:=hv;exact ⟨_,_,_,rfl,h1,h2,h3⟩
 have hki:=Zcj h2;simp only[VR]at h1;subst h1;obtain ⟨ps,hD,hK⟩:=r.dict hd hL;have hsys:=r.notSys G (show (hp.set env.locals (.ns m)) d=some (.dict kvs) by rw[Hp.sn _ _ hL];exact hd);refine wpAny_call_entry F.slot_dict_setdefault (hD PW W0).typeIs F.entry_dict_setdefault ?_ (F.args_dict_setdefault_3 _ _ _);unfold Builtin.«dict.setdefault»;refine wB ?_;unfold Builtin.Dict.keyAndDefault;refine wB (wpAny_notOrdered_dict (hD PW W0).typeIs ?_);show wpAny _ _ (pure (d,u,some x)) _ _ s;refine wP ?_;show wpAny _ _ (if (d == sysModules)=true then _ else (dictSetDefault d u x >>= _)) _ _ s;rw[if_neg (by rw[hsys];exact Bool.false_ne_true)];have hg:=hK.get (k:=k);refine wB (Zdj (k:=k) hki (hD PW W0) (λy hy=>?_) (λhn h' hD' hs'=>?_) (by rw[hK.length];have:=sizeLine_eq;(exact Nat.le_trans ‹_› (by decide))))
 .refine wP ⟨_,rfl,?_⟩;cases e:dget kvs k with
  | none=>rw[hg.2 e]at hy;cases hy
  | some z=>
   obtain ⟨z',hz',hzz⟩:=hg.1 z e;rw[hz']at hy;cases hy;rw[e]at h;exact mkV (r.toks _) (.refl _) hzz h
 .refine wP ⟨_,rfl,?_⟩;cases e:dget kvs k with
  | some z=>obtain ⟨z',hz',_⟩:=hg.1 z e;rw[hn]at hz';cases hz'
  | none=>
   rw[e]at h;have t:=r.putDict (kvs':=kvs ++ [(k,dv)]) hd hL hD' hs' (λle=>KVR.append (h3.mono le) (hK.mono le)) (s.toks + 1);exact mkV t.1 t.2 (h3.mono t.2) h
end
section
variable {K:Frag}
noncomputable abbrev Zie (B:Shared) (env:Env) (m:Loc) (T:String) (id:String) (Q:QV):AV->Hp->Prop:=λv hpY=>∃ a,v = .ref a/\(∀ s,Rel B (hpY.set env.locals (.ns m)) s->∃ ob,s.heap.get? a=some ob/\ob.cls = .type T/\ob.dict=none/\∀ c,ob.data≠.cls c)/\∀ x,hpY x=none->x≠env.locals->Q (.ref x) (hpY.set x (.obj (Zax id a)))
theorem Zml {o:Expr}{name:PySem.Str} {pos}{T id gid:String}{Q:QV} (b:BndOk T name id gid)
  (hck:∀ {A:Around}{a:Addr}{s:Shared}{o:Obj}{Q:ET},s.heap.get? a=some o->o.cls = .type T->Q (.ref s.heap.objs.size) { s with heap:=s.heap.push (Zax id a) }->wpAny (model PW W0) A (call (.builtin "method_descriptor.__get__") [.builtin id,.ref a,.type T]) Q (λ_ _=>False) s)
  (h:EV (model PW W0) A E B env o m hp (Zie B env m T id Q))
  (he:eval (.Attribute o name pos) env=(do
   let ov <-eval o env
   standAt pos.atName
   let r <-holding [ov] (getAttr ov name true)
   letTemporaryGo o ov r
   pure r):=by with_unfolding_all rfl) (ht:∀ ov r,letTemporaryGo o ov r=pure ():=by intro _ _;rfl) :
  EV (model PW W0) A E B env (.Attribute o name pos) m hp Q:=λs r=>by
 rw[he];refine wB (h.use r λv sY av hpY rY leY hv x=>wB (wpAny_standAt (wB (wpAny_holding ?_))));refine hide λ_ Z=>?_;obtain ⟨a,rfl,hty,q⟩:=x;simp only[VR]at hv;subst hv;obtain ⟨ob,ho,hcl,hdn,hn⟩:=hty sY rY;apply Z;clear Z;refine Zcw b ho hcl hdn hn (λho hc h=>hck ho hc h) ?_;have n:=rY.newAt (Zax id a) (.obj (Zax id a)) ⟨Heap.get?_push_size _ rfl,bndOb_notImm⟩;rw[ht];exact wB (wP (wP (mkV (av:=.ref _) (n.1.toks _) (leY.trans n.2.2.2) VR_ref (q _ n.2.1 n.2.2.1))))
theorem Zhg {d:Addr}{kvs:List (Int × AV)} (hd:hp d=some (.dict kvs)) (hL:d≠env.locals):∀ s,Rel B (hp.set env.locals (.ns m)) s->∃ ob,s.heap.get? d=some ob/\ob.cls = .type "dict" /\ ob.dict=none/\∀ c,ob.data≠.cls c:=λs r=>by refine hide λ_ Z=>?_;obtain ⟨ps,⟨o,es,ep,ho,hc,hdt,_⟩,_⟩:=r.at hd hL;apply Z;clear Z;exact ⟨o,ho,hc.1,hc.2.1,λc=>by rw[hdt];simp⟩
theorem Zjm {d:Addr}{f:Int->Bool}{n:Nat} (hd:hp d=some (.set f n)) (hL:d≠env.locals):∀ s,Rel B (hp.set env.locals (.ns m)) s->∃ ob,s.heap.get? d=some ob/\ob.cls = .type "set" /\ ob.dict=none/\∀ c,ob.data≠.cls c:=λs r=>by refine hide λ_ Z=>?_;obtain ⟨o,es,ep,t,ho,hc,hdt,_⟩:=r.at hd hL;apply Z;clear Z;exact ⟨o,ho,hc.1,hc.2.1,λc=>by rw[hdt];simp⟩
theorem Ze4 {M:Model}{s:Shared}{pos:Pos}{u a:Addr}{id:String}{args:List (Bool × Sem Value)}{Q:ET} (hplain:args.any (·.1)=false)
  (h:wpAny M A (evalArgs (.ref u) true args []) (λx sY=>sY.heap.get? u=some (Zax id a)/\wpAny M A (call (.ref u) ([] ++ x.pos) x.kw) Q E sY) E s):wpAny M A (callWith pos (.ref u) [] args []) Q E s:=by
 unfold callWith;refine wB (wpAny_holding (wpAny_mono h (λx sY hY=>wB (wpAny_standAt ?_)) λ_ _ x=>x));obtain ⟨ho,hcall⟩:=hY;simp -iota only [hplain,List.any_nil,Bool.or_false];refine wB (m:=keeperOf (.ref u)) ?_;unfold keeperOf;refine wB (wpAny_load ho ?_);dsimp only [Zax,show (Value.type "builtin_function_or_method" != Value.type "method")=true by decide,show (Value.type "builtin_function_or_method" == Value.type "builtin_function_or_method" || Value.type "builtin_function_or_method" == Value.type "method-wrapper")=true by decide,if_true];refine wP ?_;exact wB (wpAny_mono hcall (λr s₂ hr=>wB (wpAny_holding (wpAny_point (wP hr)))) λ_ _ x=>x)
theorem Zf4 {M:Model}{s:Shared}{pos:Pos}{u a:Addr}{id:String}{e:Expr}{rest:List Expr}{Q:ET}
  (h:wpAny M A (spliced (backTo pos (starEach (e :: rest) env))) (λvs sY=>sY.heap.get? u=some (Zax id a)/\wpAny M A (call (.ref u) vs) Q E sY) E s)
  (he:starEach (e :: rest) env=(false,eval e env) :: starEach rest env) (hplain:(backTo pos (starEach rest env)).any (·.1)=false) :
  wpAny M A (callWith pos (.ref u) [] (backTo pos (starEach (e :: rest) env)) []) Q E s:=by
 rw[he]at h ⊢;refine Ze4 (id:=id) (a:=a) (by show (false || (backTo pos (starEach rest env)).any (·.1))=false;rw[hplain];rfl) ?_;exact evalArgs_plain h
noncomputable abbrev Zgc (PW:Program) (W0:World) (A:Around) (E:ET) (B:Shared) (env:Env) (m:Loc) (e:Expr) (rest:List Expr) (id:String) (Q:QV):AV->Hp->Prop:=λv hpY=>∃ b a,v = .ref b/\b≠env.locals/\EVS (model PW W0) A E B env (e :: rest) m hpY λvs hp₂=>hp₂ b=some (.obj (Zax id a))/\CL (model PW W0) A E B env (.ref b) m vs hp₂ Q
theorem Zb3 {func e:Expr}{rest:List Expr} {pos}{id:String}{Q:QV}
  (h:EV (model PW W0) A E B env func m hp (Zgc PW W0 A E B env m e rest id Q))
  (hc:autoParam (eval (.Call func (e :: rest) [] pos) env=(do callWith pos (<-eval func env) [] (backTo pos (starEach (e :: rest) env)) (backToKw pos (keywordEach [] env)))) rB)
  (he:autoParam (starEach (e :: rest) env=(false,eval e env) :: starEach rest env) rB) (hplain:autoParam ((backTo pos (starEach rest env)).any (·.1)=false) rB) :
  EV (model PW W0) A E B env (.Call func (e :: rest) [] pos) m hp Q:=λs r=>by
 refine Call_ (h.use r λu sY v hpY rY leY hu x=>?_) hc;refine hide λ_ Z=>?_;obtain ⟨b,a,rfl,hbL,q⟩:=x;apply Z;clear Z;simp only[VR]at hu;subst hu;refine Zf4 (id:=id) (a:=a) (Zcu (q pos sY rY) λvs s₂ avs hp₂ r₂ le₂ hv ⟨hb,q⟩=>⟨(r₂.at hb hbL).1,?_⟩) he hplain;exact useV (q s₂ vs r₂ hv) λv s₃ av hp₃ r₃ le₃ hv q=>mkV r₃ ((leY.trans le₂).trans le₃) hv q
theorem Zhl {s:Shared}{x a:Addr}{id:String}{bt:Builtin}{vs:List Value}{Q:ET} (ho:s.heap.get? x=some (Zax id a)) (hq:(Code.builtin id ⟨.ref a :: vs,[]⟩).quiet=true) (he:entryFor table id=some bt) (hpl:plainId id=true)
  (hck:∀ (Q:Unit->Shared->Prop) (E:ET) (A:Around),Q () s->wpAny (model PW W0) A (checkBoundCall id ⟨.ref a :: vs,[]⟩) Q E s)
  (tree:wpAny (model PW W0) A.in1 (bt ⟨.ref a :: vs,[]⟩) (λfin s'=>∃ v,fin = .done (.ret v)/\Q v s') E s):wpAny (model PW W0) A (call (.ref x) vs) Q E s:=by
 refine wpAny_call (codeAny_of_tree ?_);show wpAny _ A.in1 (callAny (.ref x) ⟨vs,[]⟩) _ _ s;dsimp only [callAny];refine wB (wpAny_load ho ?_);dsimp only [Zax,show (Value.type "builtin_function_or_method" == Value.type "method" || Value.type "builtin_function_or_method" == Value.type "builtin_function_or_method" || Value.type "builtin_function_or_method" == Value.type "method-wrapper")=true by decide,if_true];refine KFB.if_so (by decide) ?_;refine wB (hck _ _ _ ?_);refine wB (wP (wP ?_));refine ⟨hq,codeAny_builtin he ?_⟩;rw[Around.under_plainId hpl];refine wpAny_mono tree (λfin s' yq=>?_) λ_ _ x=>x;obtain ⟨v,e,q⟩:=yq;subst e;exact q
theorem Zf3 {s:Shared}{a:Addr}{T id:String}{o:Obj}{sig:Manifest.Signature}{vs:List Value}{Q:Unit->Shared->Prop} (ho:s.heap.get? a=some o) (hcl:o.cls = .type T) (hn:∀ c,o.data≠.cls c) (hsig:Manifest.signature? id=some sig) (hk:builtinKind id=some .method) (hva:Manifest.varargsMethods.contains id=false)
  (hmod:isSubtype (.type T) (.type "module")=pure false) (hr:sig.receiver = .self)
  (hf:(toString (Bind.lastOf T) ++ toString "." ++ toString (Bind.lastOf id) != "*")=true) (hs:(sig.short != "*")=true)
  (hchk:∀ full short f2,Bind.check { sig with full:=f2 } full short vs.length []=pure ()) (h:Q () s):wpAny (model PW W0) A (checkBoundCall id ⟨.ref a :: vs,[]⟩) Q E s:=by
 have hT:s.TypeIs (.ref a) T:=⟨o,ho,hcl⟩;unfold checkBoundCall;simp only[hsig,hk];rw[if_neg (by decide)];refine wB (wpAny_isInstance hT hmod ?_);rw[hva];simp only[Bool.or_false,Bool.false_eq_true,if_false];refine wB ?_;unfold isType loadHead;refine wB (wpAny_loadPart ho (wP ?_));refine KFB.if_not ?_ ?_
 .cases e:o.data with
  | cls c=>exact absurd e (hn c)
  | _=>rfl
 refine wB (wpAny_typeOf hT ?_);dsimp only;unfold Bind.checkArgs;rw[hr];have hrn:(Manifest.Receiver.self == Manifest.Receiver.none)=false:=by decide
 dsimp only [hrn,Bool.false_eq_true,if_false,List.map_nil,List.isEmpty_nil,List.head?_cons,List.length_cons,Nat.add_sub_cancel]
 have fin:wpAny (model PW W0) A (do
   let a1 <-Bind.printed (toString (Bind.lastOf T) ++ toString "." ++ toString (Bind.lastOf id)) true { sig with full:=toString (Bind.lastOf T) ++ toString "." ++ toString (Bind.lastOf id),receiver:=.self } (some (.ref a));let a2 <-Bind.printed sig.short false { sig with full:=toString (Bind.lastOf T) ++ toString "." ++ toString (Bind.lastOf id),receiver:=.self } (some (.ref a))
   (Bind.check { sig with full:=toString (Bind.lastOf T) ++ toString "." ++ toString (Bind.lastOf id),receiver:=.self } a1 a2 vs.length []).onRaise λ_=>do
    if (toString (Bind.lastOf T) ++ toString "." ++ toString (Bind.lastOf id)) == "*" || sig.short == "*" then
     if let some r:=some (Value.ref a) then discard <| typeName (<-Bind.receiverType { sig with full:=toString (Bind.lastOf T) ++ toString "." ++ toString (Bind.lastOf id),receiver:=.self } r)
    if <-Bind.nameInDoubt { sig with full:=toString (Bind.lastOf T) ++ toString "." ++ toString (Bind.lastOf id),receiver:=.self } (some (.ref a)) then unsupported "bind:dotted-class-name-under-the-short-mark") Q E s:=by
  refine wB (printed_name hf (wB (printed_name hs ?_)));have:=hchk (toString (Bind.lastOf T) ++ toString "." ++ toString (Bind.lastOf id)) sig.short (toString (Bind.lastOf T) ++ toString "." ++ toString (Bind.lastOf id));rw[<-hr];rw[this];exact wpAny_onRaise (wP h)
 cases hm:sig.machinery with
 | _=>rw[hm]at fin;exact fin
theorem Zn7 {full short f2:String}:Bind.check ⟨.oneArg,f2, "__contains__",.self,[⟨"object",.posOnly,true⟩]⟩ full short 1 []=pure ():=by simp[Bind.check]
theorem Zox {b d:Addr}{kvs:List (Int × AV)}{k:Int}{dv:AV}{Q:QV} (G:Gnd K B) (hb:hp b=some (.obj (Zax "dict.get" d))) (hbL:b≠env.locals) (hd:hp d=some (.dict kvs)) (hL:d≠env.locals) (h:Q ((dget kvs k).getD dv) hp):CL (model PW W0) A E B env (.ref b) m [.int k,dv] hp Q:=λs vs r hv=>by
 refine hide λ_ Z=>?_;obtain ⟨v,u,rfl,h1,h2⟩:=Zbs hv;have hki:=Zcj h1;obtain ⟨ps,hD,hK⟩:=r.dict hd hL;have hsys:=r.notSys G (show (hp.set env.locals (.ns m)) d=some (.dict kvs) by rw[Hp.sn _ _ hL];exact hd);obtain ⟨ob,ho,hcl,hdn,hn⟩:=Zhg (m:=m) hd hL s r;apply Z;clear Z;refine Zhl (r.at hb hbL).1 (Code.quiet_builtin _ (by decide +kernel)) F.entry_dict_get (by decide +kernel) (λQ E A hq=>Zf3 (sig:=⟨.positional, "dict.get", "get",.self,[⟨"key",.posOnly,true⟩,⟨"default",.posOnly,false⟩]⟩) ho hcl hn (by kernel_rfl) (by kernel_rfl) (by decide +kernel) (by rw[isSubtype_type];kernel_rfl) rfl (by decide +kernel) (by decide +kernel) (λfull short f2=>by first | rfl | kernel_rfl) hq) ?_;show wpAny _ _ (dictGet d v >>= _) _ _ s;refine wB (wpAny_dictGet_of (knd:=intKind PW W0) (k:=k) hki (hD PW W0).mapOf ?_);have hg:=hK.get (k:=k);cases e:dget kvs k with
 | none=>
  rw[e]at h;rw[hg.2 e];show wpAny _ _ (Builtin.Dict.missed d v >>= _) _ _ _;exact wB (wpAny_missed_other hsys (wP ⟨u,rfl,dv,hp,r.toks _,.refl _,h2,h⟩))
 | some y=>
  refine hide λ_ Z=>?_;rw[e]at h;obtain ⟨z,hz,hyz⟩:=hg.1 y e;apply Z;clear Z;rw[hz];exact wP ⟨z,rfl,y,hp,r.toks _,.refl _,hyz,h⟩
theorem ISet.setOf {h:Heap}{a:Addr}{f:Int->Bool}{n:Nat} (x:ISet h a f n):h.SetOf (intKind PW W0) a f n:=by refine hide λ_ Z=>?_;obtain ⟨o,es,ep,t,h1,h2,h3,h4,h5,h6,h7,h8⟩:=x;apply Z;clear Z;exact ⟨o,es,ep,t,h1,h2,h3,h4,h5,h6,h7,h8⟩
theorem Ze3 {s:Shared}{d:Addr}{f:Int->Bool}{n:Nat}{k:Int}{v:Value}{P:PySem.Fin->Shared->Prop} (hki:Value.isInt k v=true) (hsc:v.scannable=true) (hS:s.heap.SetOf (intKind PW W0) d f n)
  (h:P (.done (.ret (.bool (f k)))) { s with toks:=s.toks + 1 }):wpAny (model PW W0) A (Builtin.«frozenset.__contains__» ⟨[.ref d,v],[]⟩) P E s:=by
 unfold Builtin.«frozenset.__contains__» Builtin.Frozenset.oneOther;simp only[List.isEmpty_nil,bind_assoc];unfold Builtin.Frozenset.addrOf Builtin.Frozenset.withSetAsKey setContains;refine wB (wP ?_)
 try dsimp only
 refine wB (wP ?_)
 try dsimp only
 refine wB (wpAny_tryCatch ?_);refine wpAny_holding ?_;refine wB ((intKind PW W0).pyHash (k:=k) hki ?_);refine wB (wpAny_setFind_of (knd:=intKind PW W0) (k:=k) (s:={ s with toks:=s.toks + 1 }) hki hsc hS λrr hr=>?_);refine wP ?_;show wpAny _ _ (ret (Value.bool rr.isSome)) _ _ _;rw[hr];exact wP h
theorem Zi1:Manifest.signature? "set.__contains__" = some ⟨.oneArg, "set.__contains__", "__contains__",.self,[⟨"object",.posOnly,true⟩]⟩:=by kernel_rfl
theorem Zh5:builtinKind "set.__contains__" = some .method:=by kernel_rfl
theorem Zk1:Manifest.varargsMethods.contains "set.__contains__" = false:=by decide +kernel
theorem Znq:isSubtype (.type "set") (.type "module")=pure false:=by rw[isSubtype_type];kernel_rfl
theorem Zll:(toString (Bind.lastOf "set") ++ toString "." ++ toString (Bind.lastOf "set.__contains__") != "*")=true:=by decide +kernel
theorem Zgv {s:Shared}{a:Addr}{o:Obj}{v:Value}{Q:Unit->Shared->Prop} (ho:s.heap.get? a=some o) (hcl:o.cls = .type "set") (hn:∀ c,o.data≠.cls c) (h:Q () s):wpAny (model PW W0) A (checkBoundCall "set.__contains__" ⟨.ref a :: [v],[]⟩) Q E s:=by
 have hs:(("__contains__" : String) != "*")=true:=by decide
 have:=@Zf3 A E s a "set" "set.__contains__" o ⟨.oneArg, "set.__contains__", "__contains__",.self,[⟨"object",.posOnly,true⟩]⟩ [v] Q ho hcl hn Zi1 Zh5 Zk1 Znq rfl Zll hs (λfull short f2=>Zn7) h;exact this
theorem Zhw {b d:Addr}{f:Int->Bool}{n:Nat}{k:Int}{Q:QV} (hb:hp b=some (.obj (Zax "set.__contains__" d))) (hbL:b≠env.locals) (hd:hp d=some (.set f n)) (hL:d≠env.locals) (h:Q (.bool (f k)) hp):CL (model PW W0) A E B env (.ref b) m [.int k] hp Q:=λs vs r hv=>by
 refine hide λ_ Z=>?_;obtain ⟨v,rfl,h1⟩:=Zb6 hv;have hki:=Zcj h1;have hsc:v.scannable=true:=by simp only[VR]at h1;obtain ⟨t,rfl⟩:=h1;rfl
 have hS:s.heap.SetOf (intKind PW W0) d f n:=ISet.setOf (r.at hd hL);obtain ⟨ob,ho,hcl,hdn,hn⟩:=Zjm (m:=m) hd hL s r;apply Z;clear Z;refine Zhl (r.at hb hbL).1 (Code.quiet_builtin _ (by decide +kernel)) entry_set_contains (by decide +kernel) (λQ E A hq=>Zgv ho hcl hn hq) ?_;exact Ze3 hki hsc hS ⟨_,rfl,.bool (f k),hp,r.toks _,.refl _,VR_bool,h⟩
theorem Zog {func:Expr} {pos}{Q:QV}
  (h:EV (model PW W0) A E B env func m hp λf hpY=>f = .ty "set" /\ ∀ a,hpY a=none->a≠env.locals->Q (.ref a) (hpY.set a (.set (λ_=>false) 0)))
  (hc:autoParam (eval (.Call func [] [] pos) env=(do callWith pos (<-eval func env) [] (backTo pos (starEach [] env)) (backToKw pos (keywordEach [] env)))) rB):EV (model PW W0) A E B env (.Call func [] [] pos) m hp Q:=λs r=>by
 refine Call_ (h.use r λu sY f hpY rY leY hu yq=>?_) hc;obtain ⟨hf,q⟩:=yq;subst hf;simp only[VR]at hu;subst hu;refine PyProof.Rows.callWith_type0 (call_set_0 λled=>?_);have n:=rY.newAt { cls:=.type "set",dict:=none,data:=.set #[] 0 (.fresh 0 0 led) } (.set (λ_=>false) 0) ⟨_,#[],0,_,Heap.get?_push_size _ rfl,⟨rfl,rfl,rfl⟩,rfl,λe he=>by simp at he,λk=>by simp,by decide,by rfl,rfl⟩;exact mkV (av:=.ref _) n.1 (leY.trans n.2.2.2) VR_ref (q _ n.2.1 n.2.2.1)
end
section
variable {K:Frag}
theorem Zcl {test:Expr}{body:List Stmt} {pos}{Q:QX} (I:Nat->Loc->Hp->Prop) (n:Nat) (h0:I n m hp)
  (turn:∀ n m₂ hp₂,I n m₂ hp₂->TST (model PW W0) A E B env test m₂ hp₂ λb hp₃=>if b then EXs (model PW W0) A E B env body m₂ hp₃ λfl mj hpj=>
    match fl with | .next | .cont=>∃ n',n' < n/\I n' mj hpj | .brk=>Q .next mj hpj | .ret v=>Q (.ret v) mj hpj
   else Q .next m₂ hp₃)
  (hE:PassesOwn (model PW W0) A env E:=by first | exact PassesOwn.never | assumption):EX (model PW W0) A E B env (.While test body [] pos) m hp Q:=λs r=>by
 refine wpAny_While ?_;refine codeAny_whileLoop (λk s'=>∃ m₂ hp₂,I k m₂ hp₂/\Rel B (hp₂.set env.locals (.ns m₂)) s'/\ImmLe s.heap s'.heap) (λk s' x=>?_) n ⟨m,hp,h0,r,.refl _⟩;refine hide λ_ Z=>?_;obtain ⟨m₂,hp₂,hI,r',le⟩:=x;apply Z;clear Z;refine Zqk hE (turn k m₂ hp₂ hI s' r') λb s₂ hp₃ r₃ le₃ q=>?_;cases b with
 | false=>
  rw[if_neg Bool.false_ne_true]at q ⊢;exact wpAny_execs_nil ⟨.next,m₂,hp₃,r₃,le.trans le₃,rfl,q⟩
 | true=>
  rw[if_pos rfl]at q ⊢;refine Zo0 hE (q s₂ r₃) λfl sj af mj hpj rj lej hf q=>?_;have leA:ImmLe s.heap sj.heap:=(le.trans le₃).trans lej;cases af with
  | next=>cases hf;obtain ⟨n',hn',q⟩:=q;exact ⟨n',hn',mj,hpj,q,rj,leA⟩
  | cont=>cases hf;obtain ⟨n',hn',q⟩:=q;exact ⟨n',hn',mj,hpj,q,rj,leA⟩
  | brk=>cases hf;exact mkX (af:=.next) rj leA rfl q
  | ret v=>obtain ⟨u,rfl,hu⟩:=hf;exact mkX (af:=.ret v) rj leA ⟨u,rfl,hu⟩ q
theorem Zmc {a b:Addr}{Q:QV} (ha:∀ s,Rel B (hp.set env.locals (.ns m)) s->∃ ob,s.heap.get? a=some ob/\ob.cls = .type "list") (hb:∀ s,Rel B (hp.set env.locals (.ns m)) s->∃ ob,s.heap.get? b=some ob/\ob.cls = .type "list") (h:Q (.bool (a == b)) hp):OP2 (model PW W0) A E B env (compareOp .Is) m (.ref a) (.ref b) hp Q:=λs u v r hu hv=>by
 simp only[VR]at hu hv;subst hu;subst hv;by_cases e:a=b
 .subst e;exact wpAny_is_ref_self ⟨_,hp,r,.refl _,VR_bool,by simpa using h⟩
 .refine hide λ_ Z=>?_;obtain ⟨oa,ga,ca⟩:=ha s r;obtain ⟨ob,gb,_⟩:=hb s r;apply Z;clear Z;refine wpAny_is_ref_other e ga gb (by rw[ca];decide) ⟨_,hp,r,.refl _,VR_bool,?_⟩;rw[show (a == b)=false from by simpa using e]at h;exact h
theorem Rel.two {s:Shared} (r:Rel B hp s) {e it:Addr}{oe oi oe' oi':Obj} (he:hp e=some (.obj oe)) (hi:hp it=some (.obj oi)) (hne:e≠it) {h':Heap} (hk:∀ b o,b≠e->b≠it->s.heap.get? b=some o->h'.get? b=some o)
  (hsz:s.heap.objs.size<=h'.objs.size) (ge:h'.get? e=some oe') (gi:h'.get? it=some oi') (ne:¬ Imm oe') (ni:¬ Imm oi') (t:Nat):Rel B ((hp.set it (.obj oi')).set e (.obj oe')) { s with heap:=h',toks:=t }/\ImmLe s.heap h':=by
 have le:ImmLe s.heap h':=λb ob eq i=>by
  by_cases h1:b=e
  .subst h1;exact absurd i ((r.objs _ _ he).2.notImm _ eq)
  .by_cases h2:b=it
   .subst h2;exact absurd i ((r.objs _ _ hi).2.notImm _ eq)
   .exact hk b ob h1 h2 eq
 refine ⟨⟨λb ob eq=>?_,λa o eq=>?_,r.os,r.bare,trivial⟩,le⟩
 .refine hk b ob (λh=>?_) (λh=>?_) (r.keep b ob eq)
  .subst h;exact noE (r.objs _ _ he).1 eq
  .subst h;exact noE (r.objs _ _ hi).1 eq
 .by_cases h1:a=e
  .subst h1;rw[Hp.ss]at eq;cases eq;exact ⟨(r.objs _ _ he).1,ge,ne⟩
  .rw [Hp.sn _ _ h1]at eq;by_cases h2:a=it
   .subst h2;rw[Hp.ss]at eq;cases eq;exact ⟨(r.objs _ _ hi).1,gi,ni⟩
   .rw [Hp.sn _ _ h2]at eq;exact ⟨(r.objs a o eq).1,(r.objs a o eq).2.here le λo' e'=>hk _ _ h1 h2 e'⟩
theorem Zrl {target:Expr}{body:List Stmt}{it:Addr}{n:Nat}{el:Nat->AV}{J J':Nat->Loc->Hp->Prop}{Q:QX}{R:Result->Shared->Prop} {s₀:Shared} {E₁:ET} (hE:∀ e s',E₁ e s'->notedBy (model PW W0) A env (λe s'=>R (.error e) s') e s')
  (next:∀ i m₂ hp₂ s,i < n->J i m₂ hp₂->Rel B (hp₂.set env.locals (.ns m₂)) s->ImmLe s₀.heap s.heap->∀ (E':ET) (W:Option Value->Shared->Prop),
   (∀ v sY,(∀ U:Unit->Shared->Prop,(∀ s' hp',VR s'.heap (el i) v->Rel B (hp'.set env.locals (.ns m₂)) s'->ImmLe s.heap s'.heap->J' i m₂ hp'->U () s')->wpAny (model PW W0) A (letOwnedTupleGo target (.ref it) v) U E' sY)->W (some v) sY)->wpAny (model PW W0) A (pyNext (.ref it)) W E' s)
  (stop:∀ m₂ hp₂ s,J n m₂ hp₂->Rel B (hp₂.set env.locals (.ns m₂)) s->ImmLe s₀.heap s.heap->∀ (E':ET) (W:Option Value->Shared->Prop),
   (∀ s' hp',Rel B (hp'.set env.locals (.ns m₂)) s'->ImmLe s.heap s'.heap->Q .next m₂ hp'->W none s')->wpAny (model PW W0) A (pyNext (.ref it)) W E' s)
  (turn:∀ i m₂ hp₂,i < n->J' i m₂ hp₂->ASG (model PW W0) A E₁ B env target (el i) m₂ hp₂ λm₃ hp₃=>EXs (model PW W0) A E₁ B env body m₃ hp₃ λfl mj hpj=>
   match fl with | .next | .cont=>J (i + 1) mj hpj | .brk=>Q .next mj hpj | .ret v=>Q (.ret v) mj hpj)
  (hR:∀ fl af m' hp' s',Rel B (hp'.set env.locals (.ns m')) s'->ImmLe s₀.heap s'.heap->FR s'.heap af fl->Q af m' hp'->R (.ok fl) s')
  {s:Shared} (h0:J 0 m hp) (rel:Rel B (hp.set env.locals (.ns m)) s) (leZ:ImmLe s₀.heap s.heap) :
  codeAny (model PW W0) A (.forLoop target (.ref it) body [] env) R s:=by
 refine codeAny_forLoop_any (λk s'=>∃ i m₂ hp₂,k=n - i/\i<=n/\J i m₂ hp₂/\Rel B (hp₂.set env.locals (.ns m₂)) s'/\ImmLe s₀.heap s'.heap) (λk s' x=>?_) n ⟨0,m,hp,rfl,Nat.zero_le _,h0,rel,leZ⟩;refine hide λ_ Z=>?_;obtain ⟨i,m₂,hp₂,rfl,hi,hJ,r,le⟩:=x;apply Z;clear Z;rcases Nat.lt_or_eq_of_le hi with hlt | rfl
 .refine next i m₂ hp₂ s' hlt hJ r le _ _ λv sY k=>k _ λs₂ hp' hv r₂ le₂ hJ'=>?_
  refine wpAny_mono (turn i m₂ hp' hlt hJ' _ v r₂ hv) (λ_ s₃ x=>?_) hE;refine hide λ_ Z=>?_;obtain ⟨m₃,hp₃,r₃,le₃,q⟩:=x;apply Z;clear Z;refine wpAny_mono (q s₃ r₃) (λfl sj x=>?_) hE;refine hide λ_ Z=>?_;obtain ⟨af,mj,hpj,rj,lej,hf,q⟩:=x;apply Z;clear Z;have leAll:ImmLe s₀.heap sj.heap:=((le.trans le₂).trans le₃).trans lej;cases af with
  | next=>cases hf;exact ⟨n - (i + 1),Zb4 hlt,i + 1,mj,hpj,rfl,hlt,q,rj,leAll⟩
  | cont=>cases hf;exact ⟨n - (i + 1),Zb4 hlt,i + 1,mj,hpj,rfl,hlt,q,rj,leAll⟩
  | brk=>cases hf;exact hR _ .next _ _ _ rj leAll rfl q
  | ret v=>obtain ⟨u,rfl,hu⟩:=hf;exact hR _ (.ret v) _ _ _ rj leAll ⟨u,rfl,hu⟩ q
 .exact stop m₂ hp₂ s' hJ r le _ _ λs'' hp' r' le' q=>wpAny_execs_nil (hR _ .next _ _ _ r' (le.trans le') rfl q)
noncomputable abbrev Zrm (PW:Program) (W0:World) (A:Around) (B:Shared) (env:Env) (ta:Expr) (body:List Stmt) (m:Loc) (hp₂:Hp) (Q:QX) (a:Addr) (xs:List AV) (it en:Addr):Prop:=
 ∃ I:Nat->Loc->Hp->Prop,(∀ o1 o2,I 0 m ((hp₂.set it (.obj o1)).set en (.obj o2)))/\(∀ i m₂ hp₂ ob,I i m₂ hp₂->I i m₂ (hp₂.set it (.obj ob)))/\(∀ i m₂ hp₂ ob,I i m₂ hp₂->I i m₂ (hp₂.set en (.obj ob)))/\(∀ i m₂ hp₂,I i m₂ hp₂->Lst B hp₂ env.locals a xs) /\
   (∀ i x m₂ hp₂ o1 o2,xs[i]?=some x->I i m₂ hp₂->hp₂ it=some (.obj o1)->hp₂ en=some (.obj o2)->ASG (model PW W0) A (λ_ _=>False) B env ta (.tup [.int i,x]) m₂ hp₂ λm₃ hp₃=>EXs (model PW W0) A (λ_ _=>False) B env body m₃ hp₃ λfl mj hpj=>
    match fl with | .next | .cont=>I (i + 1) mj hpj/\hpj it=some (.obj o1)/\hpj en=some (.obj o2) | .brk=>Q .next mj hpj | .ret v=>Q (.ret v) mj hpj) /\
   (∀ m₂ hp₂,I xs.length m₂ hp₂->Q .next m₂ (hp₂.del it))
noncomputable abbrev enO (it:Addr) (i:Int) (old:Value):Obj:={ cls:=.type "enumerate",data:=.fields #[.none,.bool false,.ref it,rawInt i,.none,old] }
theorem enO_no {it i old}:¬ Imm (enO it i old):=λi=>by obtain ⟨_,_,_,e⟩:=i;cases e
noncomputable abbrev liO (a:Addr) (i:Nat) (o:Obj):Prop:=o.cls = .type "list_iterator" /\ o.data = .fields #[.ref a,.int i 0]
theorem Zmw {a i o} (h:liO a i o):¬ Imm o:=λi=>by obtain ⟨_,_,_,e⟩:=i;rw[h.2]at e;cases e
theorem Rel.none2 {s:Shared} (r:Rel B (hp.set env.locals (.ns m)) s):(s.heap.objs.size≠env.locals/\hp s.heap.objs.size=none)/\s.heap.objs.size + 1≠env.locals/\hp (s.heap.objs.size + 1)=none:=by
 have one:∀ x,s.heap.objs.size<=x->x≠env.locals/\hp x=none:=λx hx=>by
  have no:∀ o,(hp.set env.locals (.ns m)) x=some o->False:=λo e=>absurd (r.lt e) (Nat.not_lt.mpr hx);have n1:x≠env.locals:=λe=>no _ (by rw[e,Hp.ss]);refine ⟨n1,?_⟩;cases e:hp x with
  | none=>rfl
  | some o=>exact (no o (by rw[Hp.sn _ _ n1];exact e)).elim
 exact ⟨one _ (Nat.le_refl _),one _ (Nat.le_succ _)⟩
theorem Zjz {a it en:Addr}{xs:List AV}{i:Nat}{x:AV} {o1:Obj}{old:Value} {hp₂:Hp} {m₂:Loc}{s':Shared}{elts:List Expr} {tk tpos} (r':Rel B (hp₂.set env.locals (.ns m₂)) s') (n1:it≠env.locals) (n2:en≠env.locals) (hei:en≠it)
  (hit:hp₂ it=some (.obj o1)) (c1:liO a i o1) (hen:hp₂ en=some (.obj (enO it (i:Int) old))) (hl:Lst B hp₂ env.locals a xs) (hx:xs[i]?=some x) (E':ET) (W:Option Value->Shared->Prop)
  (hW:∀ v sY,(∀ U:Unit->Shared->Prop,(∀ s₂ hp',VR s₂.heap (.tup [.int i,x]) v->Rel B (hp'.set env.locals (.ns m₂)) s₂->ImmLe s'.heap s₂.heap->(∃ oi v',liO a (i + 1) oi/\hp'=(hp₂.set it (.obj oi)).set en (.obj (enO it ((i + 1:Nat):Int) v')))->U () s₂)->wpAny (model PW W0) A (letOwnedTupleGo (.Tuple elts tk tpos) (.ref en) v) U E' sY)->W (some v) sY) :
  wpAny (model PW W0) A (pyNext (.ref en)) W E' s':=by
 obtain ⟨vs',hl',hvs'⟩:=r'.lst hl;obtain ⟨v,hv,hxv⟩:=hvs'.get hx;refine wpAny_pyNext_enum_item (r'.at hen n2).1 ⟨o1,(r'.at hit n1).1,c1.1,c1.2⟩ hl' (by simpa using hv) hei λhY heo hitY htY hzY hkY=>hW _ _ λU hU=>wpAny_letOwnedTupleGo_enum heo λh₂ he₂ hs₂=>?_;obtain ⟨oi',gi',ci',di'⟩:=hitY;have t1:=r'.two (e:=en) (it:=it) (by rw[Hp.sn _ _ n2];exact hen) (by rw[Hp.sn _ _ n1];exact hit) hei hkY (by rw[hzY];exact Nat.le_succ _) heo gi' (λi=>by obtain ⟨_,_,_,e⟩:=i;cases e) (Zmw ⟨ci',di'⟩) (s'.toks + 1);have t2:=t1.1.turn (a:=en) (Hp.ss ..) hs₂ (.obj (enO it ((i:Int) + 1) v)) (λ_=>⟨he₂,enO_no⟩) (s'.toks + 1);rw[Hp.set_set,Hp.sc _ _ _ (Ne.symm n1),Hp.sc _ _ _ (Ne.symm n2)]at t2;have leT:=t1.2.trans t2.2;have htup:h₂.get? s'.heap.objs.size=some { cls:=.type "tuple",data:=.seq #[.int i s'.toks,v] }:=t2.2 _ _ htY ⟨.inl rfl,_,_,rfl⟩;refine hU _ _ ?_ t2.1 leT ⟨oi',v,⟨ci',di'⟩,rfl⟩;simp only[VR,VRs];exact ⟨_,#[.int i s'.toks,v],rfl,⟨_,htup,rfl,0,rfl⟩,_,_,rfl,⟨_,rfl⟩,_,_,rfl,hxv.mono leT,rfl⟩
theorem Zl3 {s:Shared}{it en:Addr}{oi:Obj} {o2:Obj}{h':Heap} (r:Rel B (hp.set env.locals (.ns m)) { s with heap:=h' }) (hit':B.heap.get? it=none) (hen':B.heap.get? en=none) (gi:h'.get? it=some oi) (ni:¬ Imm oi) (ge:h'.get? en=some o2) (ne:¬ Imm o2) :
  Rel B (((hp.set it (.obj oi)).set en (.obj o2)).set env.locals (.ns m)) { s with heap:=h' }:=by
 refine ⟨r.keep,λz o e=>?_,r.os,r.bare,r.size⟩;by_cases hzL:z=env.locals
 .subst hzL;rw[Hp.ss]at e;cases e;exact r.objs _ _ (Hp.ss ..)
 .rw [Hp.sn _ _ hzL]at e;by_cases hze:z=en
  .subst hze;rw[Hp.ss]at e;cases e;exact ⟨hen',ge,ne⟩
  .rw [Hp.sn _ _ hze]at e;by_cases hzi:z=it
   .subst hzi;rw[Hp.ss]at e;cases e;exact ⟨hit',gi,ni⟩
   .rw [Hp.sn _ _ hzi]at e;exact r.objs z o (by rw[Hp.sn _ _ hzL];exact e)
theorem Ziq {elts:List Expr} {tk tpos}{func xe:Expr}{body:List Stmt} {cpos pos}{Q:QX} (hh:A.handled=none)
  (h:EV (model PW W0) A E B env func m hp λf hpY=>f = .ty "enumerate" /\ EVS (model PW W0) A E B env [xe] m hpY λvs hp₂=>∃ a xs,vs=[.ref a]/\Lst B hp₂ env.locals a xs/\∀ it en,hp₂ it=none->it≠env.locals->hp₂ en=none->en≠env.locals->en≠it ->
   Zrm PW W0 A B env (.Tuple elts tk tpos) body m hp₂ Q a xs it en)
  (hc:autoParam (eval (.Call func [xe] [] cpos) env=(do callWith cpos (<-eval func env) [] (backTo cpos (starEach [xe] env)) (backToKw cpos (keywordEach [] env)))) rB)
  (he:autoParam (starEach [xe] env=[(false,eval xe env)]) rB)
  (hs:∀ x,foldedSetIterable (.Call func [xe] [] cpos) env x=pure x:=by intro _;rfl) :
  EX (model PW W0) A E B env (.For (.Tuple elts tk tpos) (.Call func [xe] [] cpos) body [] pos) m hp Q:=λs r=>by
 refine wpAny_For (Call_ (h.use r λu sY f hpY rY leY hu x=>?_) hc) hs;refine hide λ_ Z=>?_;obtain ⟨hf,q⟩:=x;subst hf;simp only[VR]at hu;subst hu;apply Z;clear Z;refine PyProof.Rows.callWith_type1 (wpAny_mono (q cpos sY rY) (λvs s₂ x=>?_) λ_ _ x=>x) he rfl;refine hide λ_ Z=>?_;obtain ⟨avs,hp₂,r₂,le₂,hv,a,xs,rfl,hl,q⟩:=x;obtain ⟨v,rfl,h1⟩:=Zb6 hv;simp only[VR]at h1;subst h1;obtain ⟨us,hlst,hus⟩:=r₂.lst hl;apply Z;clear Z;refine call_enumerate_list hlst λh' hen hit hz hk=>?_;refine wpAny_pyIter_enum (s:={ s₂ with heap:=h' }) hen ?_;refine hide λ_ Z=>?_;obtain ⟨⟨n1,f1⟩,n2,f2⟩:=r₂.none2;have hei:s₂.heap.objs.size + 1≠s₂.heap.objs.size:=Nat.succ_ne_self _;obtain ⟨oi,gi,ci,di⟩:=hit;have gr:=r₂.grown hk s₂.toks;have hlo:=r₂.nob (Nat.le_refl _);have hlo2:B.heap.get? (s₂.heap.objs.size + 1)=none:=r₂.nob (Nat.le_succ _);generalize s₂.heap.objs.size=it at *;generalize hen':it + 1=en at *;obtain ⟨I,i0,iset,jset,ilst,iturn,ifin⟩:=q it en f1 n1 f2 n2 hei;apply Z;clear Z;refine Zrl (E₁:=λ_ _=>False) (λ_ _ x=>x.elim) (n:=xs.length) (el:=λi=>.tup [.int i,xs.getD i .none]) (s₀:=s) (J:=λi m₂ hp₂=>I i m₂ hp₂/\∃ o1 old,liO a i o1/\hp₂ it=some (.obj o1)/\hp₂ en=some (.obj (enO it ((i:Nat):Int) old))) (J':=λi m₂ hp₂=>I i m₂ hp₂/\∃ o1 old,liO a (i + 1) o1/\hp₂ it=some (.obj o1)/\hp₂ en=some (.obj (enO it ((i + 1:Nat):Int) old))) (Q:=Q) (λi m₂ hp₂ s' hi hJ r' le E' W hW=>?_) (λm₂ hp₂ s' hJ r' le E' W hW=>?_) (λi m₂ hp₂ hi hJ=>?_) (λfl af m' hp' s' r' le' hf q=>mkX (af:=af) r' le' hf q)
  ⟨i0 _ _,oi,.none,⟨ci,di⟩,by rw[Hp.sn _ _ (Ne.symm hei),Hp.ss],Hp.ss ..⟩ (Zl3 (s:=s₂) gr.1 hlo hlo2 gi (Zmw ⟨ci,di⟩) hen enO_no) ((leY.trans le₂).trans gr.2)
 .refine hide λ_ Z=>?_;obtain ⟨hI,o1,old,hc1,h1,h2⟩:=hJ;apply Z;clear Z;refine Zjz (x:=xs.getD i .none) r' n1 n2 hei h1 hc1 h2 (ilst _ _ _ hI) (by simp[List.getD,List.getElem?_eq_getElem hi]) E' W λv sY k=>hW v sY λU hU=>k U λs₂ hp' hv r₂ le₂ ho=>?_;refine hide λ_ Z=>?_;obtain ⟨oi,v',hoi,rfl⟩:=ho;apply Z;clear Z;exact hU s₂ _ hv r₂ le₂ ⟨jset _ _ _ _ (iset _ _ _ _ hI),oi,v',hoi,by rw[Hp.sn _ _ (Ne.symm hei),Hp.ss],Hp.ss ..⟩
 .refine hide λ_ Z=>?_;obtain ⟨hI,o1,old,hc1,h1,h2⟩:=hJ;obtain ⟨vs',hl',hvs'⟩:=r'.lst (ilst _ _ _ hI);apply Z;clear Z;refine wpAny_pyNext_enum_end hh (r'.at h2 n2).1 ⟨o1,(r'.at h1 n1).1,hc1.1,hc1.2⟩ hl' (Array.getElem?_eq_none (by rw[<-Array.length_toList,hvs'.length];exact Nat.le_refl _)) λh'' hx=>?_;refine hide λ_ Z=>?_;obtain ⟨r'',le''⟩:=r'.drop h1 n1 hx s'.toks;apply Z;clear Z;exact hW _ _ r'' le'' (ifin _ _ hI)
 .refine hide λ_ Z=>?_;obtain ⟨hI,o1,old,hc1,h1,h2⟩:=hJ;apply Z;clear Z;refine (iturn i _ m₂ hp₂ _ _ (by simp[List.getD,List.getElem?_eq_getElem hi]) hI h1 h2).mono λm₃ hp₃ x=>x.mono λfl mj hpj y=>?_;cases fl with
  | next=>exact ⟨y.1,_,_,hc1,y.2⟩
  | cont=>exact ⟨y.1,_,_,hc1,y.2⟩
  | brk=>exact y
  | ret v=>exact y
end
noncomputable def Zek (kindOf:PySem.Str->Option NameKind):List (PySem.Str × AV)->Loc->Loc
 | [],m=>m
 | (n,v) :: r,m=>Zek kindOf r (if kindOf n=some .local then upd m n v else m)
noncomputable def Zel (kindOf:PySem.Str->Option NameKind):List (PySem.Str × AV)->Loc->Loc
 | [],m=>m
 | (n,v) :: r,m=>Zel kindOf r (if kindOf n=some .local then m else upd m n v)
noncomputable def Zbb (hp:Hp) (cs:List (PySem.Str × Addr)) (cm:Loc):Hp:=λa=>match cs.find? (λx=>decide (x.2=a)) with | some x=>some (.cell (cm x.1)) | none=>hp a
theorem Zkd {h:Heap}{k:PySem.Str->Option NameKind}:∀ {bs:List (PySem.Str × AV)}{us:List (PySem.Str × Value)}{m:Loc}{mv:PySem.Str->Option Value},us.map (·.1)=bs.map (·.1)->VRs h (bs.map (·.2)) (us.map (·.2))->LocR h m mv->LocR h (Zek k bs m) (bindL k us mv):=by
 intro r_
 induction r_ with
 | nil=>
  intro us m mv e hv x;cases us with
  | nil=>exact x
  | cons _ _=>simp at e
 | cons kv_ bs ih=>
  obtain ⟨n,v⟩:=kv_;intro us m mv e hv x;cases us with
  | nil=>simp at e
  | cons u us=>
   obtain ⟨n',u⟩:=u;simp only[List.map_cons,List.cons.injEq,VRs]at e hv;obtain ⟨rfl,e2⟩:=e;obtain ⟨_,_,⟨rfl,rfl⟩,h1,h2⟩:=hv;unfold Zek bindL;refine ih e2 h2 ?_;split
   .exact x.upd h1
   .exact x
theorem Zke {h:Heap}{k:PySem.Str->Option NameKind}:∀ {bs:List (PySem.Str × AV)}{us:List (PySem.Str × Value)}{m:Loc}{mv:PySem.Str->Option Value},us.map (·.1)=bs.map (·.1)->VRs h (bs.map (·.2)) (us.map (·.2))->LocR h m mv->LocR h (Zel k bs m) (bindC k us mv):=by
 intro r_
 induction r_ with
 | nil=>
  intro us m mv e hv x;cases us with
  | nil=>exact x
  | cons _ _=>simp at e
 | cons kv_ bs ih=>
  obtain ⟨n,v⟩:=kv_;intro us m mv e hv x;cases us with
  | nil=>simp at e
  | cons u us=>
   refine hide λ_ Z=>?_;obtain ⟨n',u⟩:=u;simp only[List.map_cons,List.cons.injEq,VRs]at e hv;obtain ⟨rfl,e2⟩:=e;obtain ⟨_,_,⟨rfl,rfl⟩,h1,h2⟩:=hv;apply Z;clear Z;unfold Zel bindC;refine ih e2 h2 ?_;split
   .exact x
   .exact x.upd h1
section
variable {K:Frag}
theorem Rel.cell {s:Shared} (r:Rel B (hp.set env.locals (.ns m)) s) {c:Addr}{v:AV} (h:hp c=some (.cell (some v))) (hL:c≠env.locals):∃ u,s.heap.IsCell c (some u)/\VR s.heap v u:=by refine hide λ_ Z=>?_;obtain ⟨o,u,ho,hd,x,rfl,hx⟩:=r.at h hL;apply Z;clear Z;exact ⟨x,⟨o,ho,hd⟩,hx⟩
theorem Zb8 {x:PySem.Str} {pos}{c:Addr}{v:AV}{Q:QV} (hc:env.cells.lookup x=some c) (hv:hp c=some (.cell (some v))) (hcL:c≠env.locals) (h:Q v hp) (hk:autoParam (env.scope.kind = .function) rB) (hl:autoParam (env.kindOf x=some .cell) rB)
  (hd:(x == ("__debug__" : PySem.Str))=false:=by decide):EV (model PW W0) A E B env (.Name x pos) m hp Q:=λs r=>by
 obtain ⟨u,hu,hvu⟩:=r.cell hv hcL;exact wpAny_Name (wpAny_loadName_cell hk hl hc hu ⟨v,hp,r,.refl _,hvu,h⟩) hd
theorem Zoi {x:PySem.Str} {pos}{c:Addr}{v:AV}{Q:QV} (hc:env.cells.lookup x=some c) (hv:hp c=some (.cell (some v))) (hcL:c≠env.locals) (h:Q v hp) (hk:autoParam (env.scope.kind = .function) rB) (hl:autoParam (env.kindOf x=some .free) rB)
  (hd:(x == ("__debug__" : PySem.Str))=false:=by decide) (hn:(x == ("__classdict__" : PySem.Str))=false:=by decide):EV (model PW W0) A E B env (.Name x pos) m hp Q:=λs r=>by
 obtain ⟨u,hu,hvu⟩:=r.cell hv hcL;exact wpAny_Name (wpAny_loadName_free hk hl hc hu ⟨v,hp,r,.refl _,hvu,h⟩ hn) hd
theorem Zee {x:PySem.Str}{c:Addr} {vZ:Option AV}{v:AV}{u:Value}{s:Shared}{W:Unit->Shared->Prop} (r:Rel B (hp.set env.locals (.ns m)) s) (hv:VR s.heap v u) (hc:env.cells.lookup x=some c) (hvZ:hp c=some (.cell vZ)) (hcL:c≠env.locals)
  (k:∀ s',Rel B ((hp.set c (.cell (some v))).set env.locals (.ns m)) s'->ImmLe s.heap s'.heap->W () s') (hk:autoParam (env.scope.kind = .function) rB) (hl:autoParam (env.kindOf x=some .cell) rB):wpAny (model PW W0) A (storeName env x u) W E s:=by
 refine hide λ_ Z=>?_;obtain ⟨o,uZ,ho,hd,_⟩:=r.at hvZ hcL;apply Z;clear Z;refine wpAny_storeName_cell hk hl hc ⟨o,ho,hd⟩ λh' hc' hs'=>?_;refine hide λ_ Z=>?_;obtain ⟨o',ho',hd'⟩:=hc';apply Z;clear Z;have t:=r.turn (a:=c) (Hp.snt hcL hvZ) hs' (.cell (some v)) (λle=>⟨o',_,ho',hd',u,rfl,hv.mono le⟩) s.toks;rw[Hp.sc _ _ _ (Ne.symm hcL)]at t;exact k _ t.1 t.2
theorem Zhx {x:PySem.Str} {pos}{c:Addr} {vZ:Option AV}{v:AV}{Q:Loc->Hp->Prop} (hc:env.cells.lookup x=some c) (hvZ:hp c=some (.cell vZ)) (hcL:c≠env.locals) (h:Q m (hp.set c (.cell (some v)))) (hk:autoParam (env.scope.kind = .function) rB) (hl:autoParam (env.kindOf x=some .cell) rB) :
  ASG (model PW W0) A E B env (.Name x pos) v m hp Q:=λs u r hu=>
 PyProof.Rows.assign_Name (Zee r hu hc hvZ hcL (λs' r' le=>mkA r' le h) hk hl)
noncomputable abbrev Zf9 (m:Loc) (c:Addr) (Q:QX):AV->Hp->Prop:=λv hp'=>∃ vZ,hp' c=some (.cell vZ)/\Q .next m (hp'.set c (.cell (some v)))
theorem Zdc {x:PySem.Str}{value:Expr} {pos pos'}{c:Addr}{Q:QX} (hc:env.cells.lookup x=some c) (hcL:c≠env.locals) (h:EV (model PW W0) A E B env value m hp (Zf9 m c Q))
  (hs:autoParam (swapsWith value (some (.Name x pos')) pos.line env=pure false) rB) (hk:autoParam (env.scope.kind = .function) rB) (hl:autoParam (env.kindOf x=some .cell) rB):EX (model PW W0) A E B env (.Assign [.Name x pos'] value pos) m hp Q:=λs r=>
 wpAny_Assign_Name (h.use r λu sY v hpY rY leY hu ⟨vZ,hvZ,q⟩=>Zee rY hu hc hvZ hcL (λs' r' le=>mkX (af:=.next) r' (leY.trans le) rfl q) hk hl) hs
end
open PySem PySem.W PyProof.Rows PySem.Calls Builtin
set_option maxHeartbeats 4000000
structure MatK (PW:Program) (W0:World) (K:Frag):Prop where
 call:specialIn K (.ref 135) "__call__" = some (some (.builtin "type.__call__"))
 typ:instIn K (.ref 135) (.type "type")=some true
 made:peek K ⟨PW,W0.params⟩ (Bind.madeBy (.ref 135))=some none
 chk:∀ a,peek K ⟨PW,W0.params⟩ (checkBuiltinCall "tuple.__new__" ⟨[.ref 135,a],[]⟩)=some ()
 mro:peek K ⟨PW,W0.params⟩ (mroOf (.ref 135))=some [.ref 135,.type "tuple",.type "object"]
 here:peek K ⟨PW,W0.params⟩ (Bind.madeHere "tuple.__new__" (.ref 135))=some ()
 isty:peek K ⟨PW,W0.params⟩ (isType (.ref 135))=some true
 self:mroIn K 135 (.ref 135)=some true
 top:mroIn K 135 (.type "object")=some true
 tup:mroIn K 135 (.type "tuple")=some true
 init:findIn K (.ref 135) "__init__" = some (some (.builtin "object.__init__"))
 reads:readsIn K 135 (.type "type")=true
 find:findCls K (.ref 135) (.type "type") "__new__" = some (.get (.builtin "staticmethod.__get__") (.ref 136) .none (.ref 135))
 sm:recIn K 136 "staticmethod" = some [.ref 82]
 tnew:findCls K (.type "tuple") (.type "type") "__new__" = some (.val (.builtin "tuple.__new__"))
 del:∃ oc od cd sl,K.lookup 135=some ⟨oc,od,.cls cd,sl⟩/\cd.hasDel=false
noncomputable def Zme (K:Frag) (R:Result->Shared->Prop) (r:Result) (s':Shared):Prop:=match r with
 | .ok (.ret v)=>∃ x o,v = .ref x/\s'.heap.get? x=some o/\o.cls = .ref 135/\K.In s'.heap/\R (.ok (.ret (.ref x))) s'
 | .ok _=>False
 | .error e=>R (.error e) s'
theorem Zli (a b c d:Value):argsOk "object.__init__" ⟨[a,b,c,d],[]⟩:=by unfold argsOk;kernel_rfl
section
variable {A:Around}{K:Frag}{R:Result->Shared->Prop}{h:Heap}{g:Array GenState}{d:Drawn}{t:Nat}{os:OsState}
theorem Zo8 (Y:MatK PW W0 K) {x:Addr}{o:Obj} {u1 u2 u3:Value} (X:K.In h) (hx:h.get? x=some o) (hc:o.cls = .ref 135) (q:R (.ok (.ret .none)) ⟨h,g,d,t,os⟩) :
  codeAny (model PW W0) A (.call (.builtin "object.__init__") ⟨[.ref x,u1,u2,u3],[]⟩) R ⟨h,g,d,t,os⟩:=by
 have t1:Looks (model PW W0) h (typeOf (.ref x)) (.ref 135):=by rw[<-hc];exact (Looks.ld hx).andThen .now
 have t2:Looks (model PW W0) h (isInstance (.ref x) (.type "object")) true:=t1.andThen (looks_mroIn X Y.top);have t3:=looks_findIn (M:=model PW W0) X Y.init;have t4:Looks (model PW W0) h (Bind.madeBy (.ref 135)) none:=Looks.of_peek X Y.made;refine codeAny_call_builtin oi_plain entry_oi (@check_slot (model PW W0) _ _ _ "object.__init__" "object" "__init__" (.ref x) [u1,u2,u3] [] _ oi_kind oi_split t2 (Zli (.ref x) u1 u2 u3) ?_);unfold Builtin.«object.__init__»;dsimp only;refine wB ?_;refine t1.at (wB (t3.at (wB (t4.at ?_))));dsimp only [bne_self_eq_false,Bool.false_eq_true,if_false];exact wP q
theorem Zlp (Y:MatK PW W0 K) {u1 u2 u3:Value} (X:K.In h)
  (hq:codeAny (model PW W0) (A.under (.builtin "type.__call__" ⟨[.ref 135,u1,u2,u3],[]⟩)) (.call (.ref 82) ⟨[.ref 135,u1,u2,u3],[]⟩) (Zme K R) ⟨h,g,d,t + 1,os⟩) :
  codeAny (model PW W0) A (.call (.ref 135) ⟨[u1,u2,u3],[]⟩) R ⟨h,g,d,t,os⟩:=by
 refine hide λ_ Z=>?_;obtain ⟨oc,od,cd,sl,hC,e2⟩:=Y.del;apply Z;clear Z;have call:=looks_specialIn (M:=model PW W0) X Y.call;have typ:=looks_instIn (M:=model PW W0) X Y.typ;have hm:Looks (model PW W0) h (mroOf (.ref 135)) _:=Looks.of_peek X Y.mro;have made:Looks (model PW W0) h (Bind.madeBy (.ref 135)) none:=Looks.of_peek X Y.made;refine codeAny_of_tree ?_;show wpAny _ _ (callAny (.ref 135) _) _ _ _;refine nd_load (X _ _ hC) ?_;show wpAny _ _ (callAny.viaDunder (.ref 135) _) _ _ _;unfold callAny.viaDunder;refine wB (call.at ?_);dsimp only;rw[tc_bind];refine wB (wP (wB (wP ?_)));refine wP (a:=Fin.again (.call (.builtin "type.__call__") ⟨[.ref 135,u1,u2,u3],[]⟩)) (And.intro rfl ?_);refine codeAny_call_builtin_at (Code.quiet_builtin _ (by decide +kernel)) entry_typeCall (check_slot tc_kind tc_split typ (tc_args _ _ _) ?_);unfold Builtin.«type.__call__»;dsimp only;have f0:(Value.ref 135 == Value.type "type")=false:=rfl;simp -iota only [f0,Bool.false_eq_true,if_false];refine wB (hm.at ?_);dsimp only [List.isEmpty_cons,Bool.false_eq_true,if_false];refine wB (made.at ?_);dsimp only;refine wB ?_;refine cls_bind X Y.reads Y.find ?_;refine wpAny_call (sm_get X Y.sm ?_);dsimp only;refine handed_on (by rfl) ?_;refine wB (wpAny_holding (wpAny_call ?_));refine codeAny_mono hq λr s' z=>?_;rcases r with e | (v | _ | _ | _) <;> first | exact z | exact z.elim | skip
 refine hide λ_ Z=>?_;obtain ⟨x,o,rfl,hx,hc,X',q⟩:=z;obtain ⟨h',g',d',t',os'⟩:=s';apply Z;clear Z;have t1:Looks (model PW W0) h' (typeOf (.ref x)) (.ref 135):=by rw[<-hc];exact (Looks.ld hx).andThen .now
 have t2:Looks (model PW W0) h' (isInstance (.ref x) (.ref 135)) true:=t1.andThen (looks_mroIn X' Y.self);refine wB (t2.at ?_);simp -iota only [Bool.not_true,Bool.false_eq_true,if_false];refine wB (wpAny_holding ?_);unfold callSpecial? specialOf;refine wB (wB (t1.at ((looks_findIn X' Y.init).at (wpAny_holding ?_))));rw[oi_bind];refine wB (wP (wB (wpAny_call (Zo8 Y X' hx hc ?_))));exact wP (wP q)
end
section
variable {K:Frag}
theorem Zld:plainId "tuple.__new__" = true:=by decide +kernel
theorem Zqe {a b c:AV}{Q:QV} (G:Gnd K B) (Y:MatK PW W0 K)
  (h:∀ vs,CD (model PW W0) (A.under (.builtin "type.__call__" ⟨.ref 135 :: vs,[]⟩)) E B env (.ref 82) m [.ref 135,a,b,c] hp λv hp'=>(∃ xs,v = .mat xs)/\Q v hp') :
  CL (model PW W0) A E B env (.ref 135) m [a,b,c] hp Q:=λs vs r hv=>by
 obtain ⟨u1,u2,u3,rfl,h1,h2,h3⟩:∃ u v W0,vs=[u,v,W0]/\VR s.heap a u/\VR s.heap b v/\VR s.heap c W0:=by simp only[VRs]at hv;obtain ⟨v,r,rfl,h1,u,r',rfl,h2,z,r'',rfl,h3,rfl⟩:=hv;exact ⟨_,_,_,rfl,h1,h2,h3⟩
 refine wpAny_call ?_;have hh:=h [u1,u2,u3] { s with toks:=s.toks + 1 } [.ref 135,u1,u2,u3] (r.toks _) (by simp only[VRs];exact ⟨_,_,rfl,VR_ref,_,_,rfl,h1,_,_,rfl,h2,_,_,rfl,h3,rfl⟩);obtain ⟨heap,g,d,t,os⟩:=s;refine Zlp Y (G.X.keeps r.keep) (codeAny_mono hh λrr s' z=>?_);rcases rr with e | (v | _ | _ | _) <;> first | exact z | exact z.elim | skip
 obtain ⟨av,hp',r',le',hv',⟨xs,rfl⟩,q⟩:=z;have hv2:=hv';simp only[VR]at hv';obtain ⟨x,us,rfl,⟨o,ho,hc,n,hd⟩,hu⟩:=hv';exact ⟨x,o,rfl,ho,hc,G.X.keeps r'.keep,_,hp',r',le',hv2,q⟩
theorem Zon {xs:List AV}{Q:QV} (G:Gnd K B) (Y:MatK PW W0 K) (hsz:xs.length<=sizeLine) (h:Q (.mat xs) hp):CL (model PW W0) A E B env (.builtin "tuple.__new__") m [.ref 135,.tup xs] hp Q:=λs vs r hv=>by
 refine hide λ_ Z=>?_;obtain ⟨v,u,rfl,h1,h2⟩:=Zbs hv;simp only[VR]at h1 h2;subst h1;obtain ⟨a,us,rfl,⟨o,ho,hc,n,hd⟩,hu⟩:=h2;have hlen:us.size<=sizeLine:=by rw[<-Array.length_toList,hu.length];exact hsz
 have X:=G.X.keeps r.keep;obtain ⟨oc,od,cd,sl,hC,e2⟩:=Y.del;apply Z;clear Z;refine wpAny_call (codeAny_call_builtin Zld PySem.F.entry_tuple_new (Looks.here (Looks.of_peek X (Y.chk _)) ?_));unfold Builtin.«tuple.__new__»;dsimp only;refine wB ((Looks.of_peek (M:=model PW W0) X Y.isty).here ?_);simp only[Bool.not_true,Bool.false_eq_true,if_false];refine wB ((looks_mroIn X Y.tup).here ?_);simp only[Bool.not_true,Bool.false_eq_true,if_false];refine wB ((Looks.of_peek (M:=model PW W0) X Y.here).here ?_);refine wB ((looks_findIn X Y.init).here ?_);simp only[beq_self_eq_true,if_true];refine wB ?_;refine wpAny_of_eq (a:=()) (by rfl) ?_;refine wB (wpAny_of_eq (a:=()) (by rfl) ?_);have f0:(Value.ref 135 == Value.type "tuple")=false:=rfl;simp only[f0,Bool.false_eq_true,if_false];refine wB (wpAny_collect_seq (hsz:=hlen) a (.inr rfl) ho hc hd λh' hk=>?_);refine wB (wP ?_);refine wB (wpAny_alloc ?_);refine wB ?_;unfold newObj;dsimp only;rw[if_neg (by simp only[List.size_toArray,Array.length_toList];(exact Nat.not_lt.mpr ‹_›))];unfold newObjAsIs classHasDel;have hC':=hk _ _ (X _ _ hC);refine wB (wpAny_alloc (wB (wB (wpAny_load (Heap.get?_push_of_some _ (Heap.get?_push_of_some _ hC')) (wP ?_)))));rw[e2];refine wP (wP ?_);refine hide λ_ Z=>?_;obtain ⟨r1,le1⟩:=r.grown hk s.toks;apply Z;clear Z;have r2:=(r1.push emptyDict).push { cls:=.ref 135,dict:=some h'.objs.size,data:=.seq us.toList.toArray };have le2:ImmLe s.heap ((h'.push emptyDict).push { cls:=.ref 135,dict:=some h'.objs.size,data:=.seq us.toList.toArray }):=ImmLe.keep λb o e=>Heap.get?_push_of_some _ (Heap.get?_push_of_some _ (hk _ _ e));refine mkV (av:=.mat xs) r2 le2 (?_) h;simp only[VR];exact ⟨_,us.toList.toArray,rfl,⟨_,Heap.get?_push_size _ rfl,rfl,0,rfl⟩,by simpa using hu.mono le2⟩
theorem Zjs {s:Shared}{pl:Sem Bool}{Q:Value × List Value->Shared->Prop} (X:K.In s.heap) (Y:MatK PW W0 K)
  (h:Q (.builtin "tuple.__new__",[]) { s with toks:=s.toks + 1 }):wpAny (model PW W0) A (getMethod (.type "tuple") (PySem.Str.ofString "__new__") pl) Q E s:=by
 have hstub:opaqueClassAbove (.type "tuple")=pure none:=by unfold opaqueClassAbove;dsimp only;rw[show Manifest.isStub "tuple" = false by decide +kernel];rfl
 have ht:typeOf (.type "tuple")=pure (.type "type"):=by first | rfl | kernel_rfl
 have L0:Looks (model PW W0) s.heap (typeOf (.type "tuple")) (.type "type"):=Looks.of_pure ht;have hg:findIn K (.type "type") "__getattribute__" = some (some (.builtin "type.__getattribute__")):=type_tga;unfold getMethod specialOf;refine wB (wB (L0.here ((looks_findIn X hg).here ?_)));dsimp only;rw[if_pos canon_tga];refine wB (wpAny_mono (Q:=λv=>Q (v,[])) (E:=E) ?_ (λ_ _ z=>wP z) λ_ _ z=>z);have LO:Looks (model PW W0) s.heap (opaqueClassAbove (.type "tuple")) none:=Looks.of_pure hstub;refine cls_open X LO L0 hg (looks_hook X (r:=none) (by rfl)) (by show subIn K _ _=_;rfl) Y.tnew ?_;exact wP (handed_on (by rfl) h)
theorem Zoe {o e:Expr}{rest:List Expr} {apos pos}{pl:Sem Bool}{Q:QV} (G:Gnd K B) (Y:MatK PW W0 K)
  (h:EV (model PW W0) A E B env o m hp λv hpY=>v = .ty "tuple" /\ EVS (model PW W0) A E B env (e :: rest) m hpY λvs hp₂=>CL (model PW W0) A E B env (.builtin "tuple.__new__") m vs hp₂ Q)
  (hc:autoParam (eval (.Call (.Attribute o (PySem.Str.ofString "__new__") apos) (e :: rest) [] pos) env=(do
   let ov <-eval o env
   standAt apos.atName
   let (f,first) <-holding [ov] (getMethod ov (PySem.Str.ofString "__new__") pl)
   callWith pos f first (backTo pos (starEach (e :: rest) env)) [])) rB)
  (he:autoParam (starEach (e :: rest) env=(false,eval e env) :: starEach rest env) rB) (hplain:autoParam ((backTo pos (starEach rest env)).any (·.1)=false) rB) :
  EV (model PW W0) A E B env (.Call (.Attribute o (PySem.Str.ofString "__new__") apos) (e :: rest) [] pos) m hp Q:=λs r=>by
 refine MethodCall_ (pl:=pl) (h.use r λu sY l hpY rY leY hu x=>?_) hc;obtain ⟨rfl,q⟩:=x;simp only[VR]at hu;subst hu;refine Zjs (G.X.keeps rY.keep) Y ?_;refine callWith_builtin1 (Zcu (q pos _ (rY.toks _)) λvs s₂ avs hp₂ r₂ le₂ hv q=>?_) he hplain;exact useV (q s₂ vs r₂ hv) λv s₃ av hp₃ r₃ le₃ hv q=>mkV r₃ ((leY.trans le₂).trans le₃) hv q
theorem Zkr {o:Expr}{name:PySem.Str} {pos}{T id gid:String}{Q:QV} (b:BndOk T name id gid)
  (hck:∀ {A:Around}{a:Addr}{s:Shared}{o:Obj}{Q:ET},s.heap.get? a=some o->o.cls = .type T->Q (.ref s.heap.objs.size) { s with heap:=s.heap.push (Zax id a) }->wpAny (model PW W0) A (call (.builtin "method_descriptor.__get__") [.builtin id,.ref a,.type T]) Q (λ_ _=>False) s)
  (h:EV (model PW W0) A E B env o m hp λv hpY=>∃ a,v = .ref a/\(∀ s,Rel B (hpY.set env.locals (.ns m)) s->∃ ob,s.heap.get? a=some ob/\ob.cls = .type T/\ob.dict=none/\∀ c,ob.data≠.cls c)/\∀ x,hpY x=none->x≠env.locals->Q (.ref x) (hpY.set x (.obj (Zax id a))))
  (he:eval (.Attribute o name pos) env=(do
   let ov <-eval o env
   standAt pos.atName
   let r <-holding [ov] (getAttr ov name true)
   letTemporaryGo o ov r
   pure r):=by with_unfolding_all rfl) :
  EV (model PW W0) A E B env (.Attribute o name pos) m hp Q:=λs r=>by
 rw[he];refine wB (h.use r λv sY av hpY rY leY hv x=>wB (wpAny_standAt (wB (wpAny_holding ?_))));refine hide λ_ Z=>?_;obtain ⟨a,rfl,hty,q⟩:=x;simp only[VR]at hv;subst hv;obtain ⟨ob,ho,hcl,hdn,hn⟩:=hty sY rY;apply Z;clear Z;refine Zcw b ho hcl hdn hn (λho hc h=>hck ho hc h) ?_;have n:=rY.newAt (Zax id a) (.obj (Zax id a)) ⟨Heap.get?_push_size _ rfl,bndOb_notImm⟩;exact wB (wpAny_letTemporaryGo (wP (mkV (av:=.ref _) (n.1.toks _) (leY.trans n.2.2.2) VR_ref (q _ n.2.1 n.2.2.1))))
end
noncomputable def IsSeq (h:Heap) (t:Addr) (items:Array Value):Prop:=∃ o n,h.get? t=some o/\o.data = .seq items n
theorem IsMat.seq {h:Heap}{t:Addr}{items:Array Value} (x:IsMat h t items):IsSeq h t items:=let ⟨o,ho,_,n,hd⟩:=x;⟨o,n,ho,hd⟩
theorem IsSeq.extBut {h h':Heap}{t it:Addr}{items:Array Value} (x:IsSeq h t items) (e:Heap.ExtBut it h h') (hne:t≠it):IsSeq h' t items:=let ⟨o,n,ho,hd⟩:=x;⟨o,n,e t o hne ho,hd⟩
theorem IsSeq.push {h:Heap}{t:Addr}{items:Array Value} (x:IsSeq h t items) (ob:Obj):IsSeq (h.push ob) t items:=let ⟨o,n,ho,hd⟩:=x;⟨o,n,Heap.get?_push_of_some _ ho,hd⟩
section
variable {A:Around}{E:ET}{s:Shared}
theorem Zla {it t:Addr}{i:Nat}{items:Array Value}{x:Value}{Q:Option Value->Shared->Prop} (hit:IsTupIter s.heap it t i) (ht:IsSeq s.heap t items) (hx:items[i]?=some x)
  (hQ:∀ h',IsTupIter h' it t (i + 1)->Heap.SameBut it s.heap h'->Q (some x) { s with heap:=h' }):wpAny (model PW W0) A (pyNext (.ref it)) Q E s:=by
 refine hide λ_ Z=>?_;obtain ⟨o,ho,hc,hd⟩:=id hit;obtain ⟨ol,nl,hol,hdl⟩:=ht;apply Z;clear Z;unfold pyNext;refine wB (wpAny_attempt (wpAny_callSpecial?_slot (name:=PySem.Str.ofString "__next__") hit.typeIs slot_tupleiter_next (wpAny_call_entry slot_tupleiter_next hit.typeIs entry_tupleiter_next ?_ (args_tupleiter_next _))));show wpAny _ _ (field (.ref it) 0 >>= _) _ _ s;refine wB (wpAny_field ho hd (x:=.ref t) rfl ?_);show wpAny _ _ (if (Value.ref t == Value.none)=true then _ else _) _ _ s;rw[if_neg (show ¬ ((Value.ref t == Value.none)=true) from Bool.false_ne_true)];show wpAny _ _ (field (.ref it) 1 >>= _) _ _ s;refine wB (wpAny_field ho hd (x:=.int i 0) rfl ?_);show wpAny _ _ (seqItems? (.ref t) >>= _) _ _ s;refine wB (wpAny_seqItems hol hdl ?_);simp only[Int.toNat_natCast,hx];refine wB (wpAny_setField ho hd (by simp) (wP ⟨x,rfl,wP (hQ _ ?_ (Heap.SameBut.update ..))⟩));exact ⟨_,Heap.get?_update_self _ ho (Obj.isFreed_of_fields (Obj.data_mapFields hd _)),(Obj.cls_mapFields ..).trans hc,by rw[Obj.data_mapFields hd];simp[rawInt]⟩
theorem Znj {it t:Addr}{i:Nat}{items:Array Value}{Q:Option Value->Shared->Prop} (hh:A.handled=none) (hit:IsTupIter s.heap it t i) (ht:IsSeq s.heap t items) (hx:items[i]?=none)
  (hQ:∀ h',Heap.ExtBut it s.heap h'->Q none { s with heap:=h' }):wpAny (model PW W0) A (pyNext (.ref it)) Q E s:=by
 refine hide λ_ Z=>?_;obtain ⟨o,ho,hc,hd⟩:=id hit;obtain ⟨ol,nl,hol,hdl⟩:=ht;apply Z;clear Z;unfold pyNext;refine wB (wpAny_attempt (wpAny_callSpecial?_slot (name:=PySem.Str.ofString "__next__") hit.typeIs slot_tupleiter_next (wpAny_call_entry slot_tupleiter_next hit.typeIs entry_tupleiter_next ?_ (args_tupleiter_next _))));show wpAny _ _ (field (.ref it) 0 >>= _) _ _ s;refine wB (wpAny_field ho hd (x:=.ref t) rfl ?_);show wpAny _ _ (if (Value.ref t == Value.none)=true then _ else _) _ _ s;rw[if_neg (show ¬ ((Value.ref t == Value.none)=true) from Bool.false_ne_true)];show wpAny _ _ (field (.ref it) 1 >>= _) _ _ s;refine wB (wpAny_field ho hd (x:=.int i 0) rfl ?_);show wpAny _ _ (seqItems? (.ref t) >>= _) _ _ s;refine wB (wpAny_seqItems hol hdl ?_);simp only[Int.toNat_natCast,hx];refine wB (wpAny_rule (wB (wpAny_setField ho hd (by simp) ?_)));show wpAny _ _ (newExc (.type "StopIteration") [] >>= _) _ _ _;refine wB ?_;simp only[newExc,newTuple];refine wB (wpAny_newObj_type ?_ (by size_fits));refine wB (m:=firstArgMember _ _) (wpAny_of_eq (a:=Value.none) (by first | rfl | (simp only[firstArgMember];rfl)) ?_);refine wpAny_newObj_type ?_ (by size_fits);dsimp only [raiseNew];refine wB (wpAny_handled ?_);rw[show A.in1.handled=none from hh];refine wB (wP (wpAny_throw ?_));refine wB (wpAny_isInstance (T := "StopIteration") (b:=true) ⟨_,Heap.get?_push_size _ rfl,rfl⟩ isSubtype_stop ?_);exact wP (hQ _ (((Heap.SameBut.update ..).extBut.push _).push _))
theorem Zlb {it t:Addr}{items:Array Value} (hne:t≠it):∀ (n i:Nat) (s:Shared) (Q:List Value->Shared->Prop),IsTupIter s.heap it t i->IsSeq s.heap t items->i + n<=items.size ->
  (∀ h',IsTupIter h' it t (i + n)->Heap.SameBut it s.heap h'->Q ((items.toList.drop i).take n) { s with heap:=h' })->wpAny (model PW W0) A (draw (.ref it) n) Q E s:=by
 intro r_
 induction r_ with
 | zero=>
  intro i s Q hit _ _ hQ;exact wP (by simpa using hQ s.heap hit (Heap.SameBut.refl ..))
 | succ n ih=>
  intro i s Q hit ht hle hQ;have hlt:i < items.size:=by (exact ul0 ‹_›)
  show wpAny _ _ (pyNext (.ref it) >>= _) Q E s;refine wB (Zla hit ht (x:=items[i]) (by simp[hlt]) λhY hitY hsY=>?_);refine wB (wpAny_holding (ih (i + 1) _ _ hitY (ht.extBut hsY.extBut hne) (by (exact F30 0x986700596807050 0x11 rfl hle)) λh₂ hit₂ hs₂=>wP ?_));have hd:items.toList.drop i=items[i] :: items.toList.drop (i + 1):=by simp[List.drop_eq_getElem_cons,hlt]
  have:=hQ h₂ (by rw[show i + (n + 1)=i + 1 + n by (exact F20 0x86700680706 0x11 rfl)];exact hit₂) (hsY.trans hs₂);rw[hd,List.take_succ_cons]at this;exact this
theorem Znf:builtinKind "tuple.__iter__" = some .slot:=by decide +kernel
theorem Zk7:splitId "tuple.__iter__" = some ("tuple", "__iter__"):=by decide +kernel
theorem Zlv {K:Frag}{t:Addr}{items:Array Value}{Q:ET} (X:K.In s.heap) (hf:findIn K (.ref 135) "__iter__" = some (some (.builtin "tuple.__iter__"))) (hm:mroIn K 135 (.type "tuple")=some true) (ht:IsMat s.heap t items)
  (hQ:Q (.ref s.heap.objs.size) { s with heap:=s.heap.push { cls:=.type "tuple_iterator",data:=.fields #[.ref t,.int 0 0] } }):wpAny (model PW W0) A (pyIter (.ref t)) Q E s:=by
 refine hide λ_ Z=>?_;obtain ⟨o,ho,hc,n,hd⟩:=ht;apply Z;clear Z;have t1:Looks (model PW W0) s.heap (typeOf (.ref t)) (.ref 135):=by rw[<-hc];exact (Looks.ld ho).andThen .now
 have t2:Looks (model PW W0) s.heap (isInstance (.ref t) (.type "tuple")) true:=t1.andThen (looks_mroIn X hm);have t3:=looks_findIn (M:=model PW W0) X hf;have go:∀ {W:ET},W (.ref s.heap.objs.size) { s with heap:=s.heap.push { cls:=.type "tuple_iterator",data:=.fields #[.ref t,.int 0 0] } }->wpAny (model PW W0) A (call (.builtin "tuple.__iter__") [.ref t]) W E s:=λ{W} hW=>by refine wpAny_call (codeAny_call_builtin slot_tuple_iter.plain entry_tuple_iter (check_slot Znf Zk7 t2 (args_tuple_iter _) ?_));show wpAny _ _ (do ret (<-newFields "tuple_iterator" [.ref t,rawInt 0])) _ _ s;exact wB (wpAny_newObj_type (wP hW))
 unfold pyIter callSpecialIfBoundUnlessNone? bindSpecialIfBound? specialOf;refine wB (wB (t1.here (t3.here ?_)));dsimp only;refine wB (wpAny_holding (wB (wB (wB (t1.here (t3.here ?_))))));dsimp only;rw[slot_tuple_iter.bind];refine wB (wpAny_askSetting (wpAny_ite ?_));have fin:∀ {W:Option Value->Shared->Prop},W (some (.ref s.heap.objs.size)) { s with heap:=s.heap.push { cls:=.type "tuple_iterator",data:=.fields #[.ref t,.int 0 0] } }->wpAny (model PW W0) A (if (Value.builtin "tuple.__iter__" == Value.none)=true then ((do rule "iter.none";raiseError "TypeError" s!"'{← typeNameOf (.ref t)}' object is not iterable") >>= λv=>pure (some v)) else (call (.builtin "tuple.__iter__") [.ref t] >>= λv=>pure (some v))) W E s:=λ{W} hW=>by rw[if_neg (by rw[builtin_beq_none];decide)];exact wB (go (wP hW))
 have last:wpAny (model PW W0) A (match some (Value.ref s.heap.objs.size) with
  | some it=>(do match <-specialOf it "__next__" with
   | none=>rule "iter.non-iterator";raiseError "TypeError" s!"iter() returned non-iterator of type '{← typeNameOf it}'"
   | some _=>pure it)
  | none=>unsupported "") Q E { s with heap:=s.heap.push { cls:=.type "tuple_iterator",data:=.fields #[.ref t,.int 0 0] } }:=
  wB (wpAny_specialOf (T := "tuple_iterator") ⟨_,Heap.get?_push_size _ rfl,rfl⟩ slot_tupleiter_next.lookup (wP hQ))
 split
 .exact wB (wP (wP (fin last)))
 .exact wpAny_tryCatch (wB (wP (wP (fin last))))
end
section
variable {K:Frag}
theorem Zdq {s:Shared}{t:Addr}{items:Array Value}{Q:List Value->Shared->Prop} (X:K.In s.heap) (hf:findIn K (.ref 135) "__iter__" = some (some (.builtin "tuple.__iter__"))) (hm:mroIn K 135 (.type "tuple")=some true) (hh:A.handled=none) (ht:IsMat s.heap t items)
  (hQ:∀ h',Heap.ExtBut s.heap.objs.size s.heap h'->Q items.toList { s with heap:=h' }):wpAny (model PW W0) A (unpackItems (.ref t) items.size none) Q E s:=by
 refine hide λ_ Z=>?_;have hts:=ht.seq;have hlt:t≠s.heap.objs.size:=by obtain ⟨o,n,ho,_⟩:=hts;exact Nat.ne_of_lt (Heap.lt_size ho)
 obtain ⟨o,ho,hc,n,hd⟩:=id ht;apply Z;clear Z;have t1:Looks (model PW W0) s.heap (typeOf (.ref t)) (.ref 135):=by rw[<-hc];exact (Looks.ld ho).andThen .now
 unfold unpackItems notIterableAtAll specialOf;refine wB (wB (wB (t1.here ((looks_findIn X hf).here ?_))));refine wP ?_;simp only[Bool.false_eq_true,if_false];refine wB (wpAny_holding (Zlv X hf hm ht ?_));refine wB (wpAny_holding (Zlb hlt items.size 0 _ _ ⟨_,Heap.get?_push_size _ rfl,rfl,rfl⟩ (hts.push _) (by lia) λhY hitY hsY=>?_));have hall:List.take items.size (List.drop 0 items.toList)=items.toList:=by rw[List.drop_zero];exact List.take_of_length_le (by simp)
 rw[hall];rw[if_neg (by simp)];have htY:IsSeq hY t items:=(hts.push _).extBut hsY.extBut hlt;refine wB (wpAny_holding (Znj hh hitY htY (by simp) λh₂ he₂=>?_));simp only[Option.isSome_none,Bool.false_eq_true,if_false];exact wP (hQ h₂ λb o hb e=>he₂ b o hb (hsY.extBut b o hb (Heap.get?_push_of_some _ e)))
theorem Ziu {elts:List Expr} {k pos}{xs:List AV}{ts:List (Value->Sem Unit)}{Q:Loc->Hp->Prop} (G:Gnd K B) (hf:findIn K (.ref 135) "__iter__" = some (some (.builtin "tuple.__iter__"))) (hm:mroIn K 135 (.type "tuple")=some true) (hh:A.handled=none) (hts:(assignEach elts env).map (·.2)=ts) (hn:(assignEach elts env).length=xs.length) (hstar:(assignEach elts env).findIdx? (·.1)=none)
  (h:ASGS (model PW W0) A E B env ts xs m hp Q):ASG (model PW W0) A E B env (.Tuple elts k pos) (.mat xs) m hp Q:=λs v r hv=>by
 simp only[VR]at hv;obtain ⟨a,vs,rfl,ht,hvs⟩:=hv;rw[PyProof.Rows.assign_Tuple];refine wB (wpAny_standAt ?_);unfold unpack;rw[hn,hstar,<-hvs.length,Array.length_toList];refine wB (wpAny_holding (Zdq (G.X.keeps r.keep) hf hm hh ht λh' he=>?_));obtain ⟨r',le⟩:=r.ext he s.toks;rw[hts];exact useA (h _ _ r' (hvs.mono le)) λ_ s₂ m₂ hp₂ r₂ le₂ q=>mkA r₂ (le.trans le₂) q
theorem Zcq {a b:Int}{Q:QV} (hb:b≠0) (hs:b.natAbs < 1073741824) (h:Q (.int (a.fdiv b)) hp):OP2 (model PW W0) A E B env (binaryOp .FloorDiv) m (.int a) (.int b) hp Q:=λs u v r hu hv=>by simp only[VR]at hu hv;obtain ⟨t,rfl⟩:=hu;obtain ⟨t',rfl⟩:=hv;exact PyProof.Rows.floordiv_int hb ⟨_,hp,r.toks _,.refl _,VR_int,h⟩ (.inl (PyProof.noPylong_small hs))
theorem Zki {a:Addr}{xs:List Int}{k:Int}{Q:QV} (hl:Lst B hp env.locals a (xs.map .int)) (hu:A.units + 4 < cLine) (h:Q (.bool (!xs.contains k)) hp):OP2 (model PW W0) A E B env (compareOp .NotIn) m (.int k) (.ref a) hp Q:=λs u v r hu' hv=>by
 have rl:RD B hp env.locals (.ref a) (.list (xs.map .int)):=.list hl (by
  have:∀ xs:List Int,RDs B hp env.locals (xs.map .int) (xs.map .int):=λxs=>by
   induction xs with
   | nil=>exact .nil
   | cons x xs ih=>exact .cons (.int x) ih
  exact this xs)
 obtain ⟨as,ra⟩:=rl.reads r hv;obtain ⟨bs,rb⟩:=(RD.int (B:=B) (hp:=hp) (L:=env.locals) k).reads r hu';have h1:∀ xs:List Int,PyData.canLayAll0 (xs.map .int)=true:=by
  intro xs;induction xs with
  | nil=>rfl
  | cons x xs ih=>simp only[List.map_cons,PyData.canLayAll0,ih,Bool.and_true];rfl
 refine SeqAt.notIn_list_reads ra rb (h1 xs) rfl ?_ ⟨_,hp,r,.refl _,VR_bool,?_⟩
 .have:min (PyData.depthAll (xs.map .int)) (PyData.int k).depth<=(PyData.int k).depth:=Nat.min_le_right _ _;have e:(PyData.int k).depth<=2:=by simp[PyData.depth]
  (exact F40 0x896700424a50a9508447040 0x1111 rfl hu this e)
 .have e:∀ xs:List Int,(List.map PyData.int xs).any (λy=>y.eqv (PyData.int k))=xs.contains k:=λxs=>by
   induction xs with
   | nil=>rfl
   | cons x xs ih=>
    rw[List.map_cons,List.any_cons,List.contains_cons,ih];congr 1;rw[PyData.eqv,Bool.beq_comm]
  rw[e];exact h
theorem Zok {eY e₂:Expr} {pos}{Q:QV}
  (h:EV (model PW W0) A E B env eY m hp λv hpY=>TRU (model PW W0) A E B env m v hpY λc hp₂=>if c then EV (model PW W0) A E B env e₂ m hp₂ Q else Q v hp₂):EV (model PW W0) A E B env (.BoolOp .And [eY,e₂] pos) m hp Q:=λs r=>by
 refine BoolOp_and (h.use r λu sY v hpY rY leY hu q=>?_);refine useT (q sY u rY hu) λc s₂ hp₂ r₂ le₂ q=>?_;cases c with
 | true=>
  rw[if_pos rfl]at q ⊢;exact BoolOp_one (useV (q s₂ r₂) λv s₃ av hp₃ r₃ le₃ hv q=>mkV r₃ ((leY.trans le₂).trans le₃) hv q)
 | false=>
  rw[if_neg Bool.false_ne_true]at q ⊢;exact mkV r₂ (leY.trans le₂) (hu.mono le₂) q
end
section
variable {K:Frag}
theorem Zdl {s:Shared}{value:Expr}{lower upper:Option Expr}{p pos:Pos}{T id:String}{Q:ET}
  (hl:typeLookup (.type T) "__getitem__" = pure (some (.builtin id)))
  (h:wpAny (model PW W0) A (eval value env) (λo sY=>wpAny (model PW W0) A (eval (.Slice lower upper none p) env) (λi s₂=>s₂.TypeIs o T/\wpAny (model PW W0) A (getItem o i) Q E s₂) E sY) E s) :
  wpAny (model PW W0) A (eval (.Subscript value (.Slice lower upper none p) pos) env) Q E s:=by
 rw[eval_Subscript];refine wB (wpAny_mono h (λo sY hY=>wB (wpAny_holding (wpAny_mono hY (λi s₂ h₂=>wB (wpAny_standAt ?_)) λ_ _ x=>x))) λ_ _ x=>x);have fin:wpAny (model PW W0) A (operate [i,o] (getItem o i)) (λr s₃=>wpAny (model PW W0) A (letTemporaryGo value o r >>= λ_=>pure r) Q E s₃) E s₂:=
  wpAny_operating (wpAny_mono h₂.2 (λr s₃ h₃=>wB (wpAny_letTemporaryGo (wP h₃))) λ_ _ x=>x)
 refine wB ?_;rw[getitemInPython_of_ne h₂.1.not_modules];refine wB (wpAny_specialOf h₂.1 hl ?_);exact wP (wB fin)
theorem Zkt {value:Expr}{lower upper:Option Expr} {p pos}{Q:QV}
  (h:EV (model PW W0) A E B env value m hp λo hpY=>optE (model PW W0) A E B env lower m hpY λlo hp₂=>optE (model PW W0) A E B env upper m hp₂ λhi hp₃=>
   ∃ a xs kl ku,o = .ref a/\Lst B hp₃ env.locals a xs/\xs.length<=sizeLine/\Zfk lo=some kl/\Zfk hi=some ku/\∀ b,hp₃ b=none->b≠env.locals->Q (.ref b) (hp₃.set b (.list (pick xs kl ku)))) :
  EV (model PW W0) A E B env (.Subscript value (.Slice lower upper none p) pos) m hp Q:=λs r=>by
 refine Zdl (T := "list") list_getitem_lookup (h.use r λu sY o hpY rY leY hu hY=>wpAny_Slice (hY.use rY λvl s₂ lo hp₂ r₂ le₂ hl h₂=>h₂.use r₂ λvu s₃ hi hp₃ r₃ le₃ hh h₃=>?_));refine hide λ_ Z=>?_;obtain ⟨a,xs,kl,ku,rfl,hls,hsz,pl,pu,q⟩:=h₃;simp only[VR]at hu;subst hu;obtain ⟨vs,hlst,hvs⟩:=r₃.lst hls;apply Z;clear Z;have e:vs.size=xs.length:=by rw[<-Array.length_toList];exact hvs.length
 rw[evalPart_none];refine wP ⟨(hlst.push _).typeIs,wpAny_getItem_list_slice (hlst.push _) (Heap.IsSliceOf.new ..) ((hl.mono le₃).part pl) (hh.part pu) .none (by simp) ?_ (by rw[e];exact hsz)⟩;have rj:=r₃.push { cls:=.type "slice",data:=.fields #[vl,vu,.none] };have lej:ImmLe s₃.heap (s₃.heap.push { cls:=.type "slice",data:=.fields #[vl,vu,.none] }):=ImmLe.keep λb o'' e=>Heap.get?_push_of_some _ e;have n:=Rel.newAt rj { cls:=.type "list",data:=.seq (slicePick vs kl ku none) } (.list (pick xs kl ku)) ⟨_,0,IsL.new _ _,Zho (hvs.mono (lej.trans (ImmLe.keep λb o'' e=>Heap.get?_push_of_some _ e))) kl ku⟩;exact mkV (av:=.ref _) n.1 (((leY.trans le₂).trans le₃).trans (lej.trans n.2.2.2)) VR_ref (q _ n.2.1 n.2.2.1)
end
section
variable {A:Around}{E:ET}{B:Shared}{K:Frag}
theorem Zgw {h:Heap}{vs:List Value}{ns:List Int} (x:IntsAre vs ns):VRs h (ns.map .int) vs:=by
 induction x with
 | nil=>simp[VRs]
 | cons n t _ ih=>simp only[List.map_cons,VRs];exact ⟨_,_,rfl,VR_int,ih⟩
end
section
variable {lt:Nat->Nat->Bool}{n:Nat}
end
noncomputable def lexB (x y:Int × Int × Int):Bool:=if x.1=y.1 then (if x.2.1=y.2.1 then decide (x.2.2 < y.2.2) else decide (x.2.1 < y.2.1)) else decide (x.1 < y.1)
noncomputable def triV (x:Int × Int × Int):AV:=.mat [.int x.1,.int x.2.1,.int x.2.2]
section
variable {A:Around}{E:ET}{s:Shared}{K:Frag}
end
noncomputable abbrev Tri:=Int × Int × Int
section
variable {K:Frag}
end
section
variable {A:Around}{E:ET}{s:Shared}
end
section
variable {K:Frag}
end
section
variable {K:Frag}
end
section
variable {K:Frag}{M:Model}
theorem Zb0 {sts:List Stmt}{Q:QX} (h:∀ K:AF->Loc->Hp->Prop,(∀ f m' hp',Q f m' hp'->K f m' hp')->EXs M A E B env sts m hp K):EXs M A E B env sts m hp Q:=h Q λ_ _ _ x=>x
theorem Zc9 {e:Expr}{Q:Bool->Hp->Prop} (h:∀ K:Bool->Hp->Prop,(∀ b hp',Q b hp'->K b hp')->TST M A E B env e m hp K):TST M A E B env e m hp Q:=h Q λ_ _ x=>x
theorem Zjn {k:Int}{v:Value} (h:Value.isInt k v=true):∃ t,v = .int k t:=by cases v <;> simp_all [Value.isInt]
theorem Zj4:∀ {kvs:List (Int × AV)}{i:Nat}{k:Int}{x:AV},(kvs.map (·.1)).Nodup->kvs[i]?=some (k,x)->dget kvs k=some x
 | [],_,_,_,_,h=>by simp at h
 | (k',x') :: kvs,0,k,x,_,h=>by simp only[List.getElem?_cons_zero,Option.some.injEq,Prod.mk.injEq]at h;unfold dget;simp[h.1,h.2]
 | (k',x') :: kvs,i + 1,k,x,nd,h=>by simp only[List.getElem?_cons_succ]at h;simp only[List.map_cons,List.nodup_cons]at nd;have ih:=Zj4 nd.2 h;have hne:k'≠k:=λe=>nd.1 (by rw[e];exact List.mem_map.mpr ⟨(k,x),List.mem_of_getElem? h,rfl⟩);unfold dget at ih ⊢;rw[List.find?_cons_of_neg (by simpa using hne)];exact ih
theorem IDict.two {h:Heap}{d:Addr}{ps:List (Int × Value)}{ep:Nat}{od:Obj} (hod:h.get? d=some od) (hid:IDict h d ps) (hat:h.DictAt (intKind PW W0) d ps ep) {h':Heap} (e:h'.get? d=some od):h'.DictAt (intKind PW W0) d ps ep/\IDict h' d ps:=by
 refine hide λ_ Z=>?_;obtain ⟨o1,es1,ho1,hr1⟩:=hat
 obtain ⟨o2,es2,ep2,ho2,hr2⟩:=hid;apply Z;clear Z;rw[hod]at ho1 ho2;cases ho1;cases ho2;exact ⟨⟨od,es1,e,hr1⟩,⟨od,es2,ep2,e,hr2⟩⟩
theorem Rel.exact {s:Shared}{d:Addr}{o:AO}{od:Obj} (r:Rel B (hp.set env.locals (.ns m)) s) (hd:hp d=some o) (hL:d≠env.locals) (hod:s.heap.get? d=some od) (hi:¬ Imm od):Rel B ((hp.set d (.obj od)).set env.locals (.ns m)) s:=
 ⟨r.keep,λa o' e=>by
  rw[Hp.sc _ _ _ hL]at e;by_cases h2:a=d
  .subst h2;rw[Hp.ss]at e;cases e;exact ⟨(r.objs a _ (by rw[Hp.sn _ _ hL];exact hd)).1,hod,hi⟩
  .rw [Hp.sn _ _ h2]at e;exact r.objs _ _ e,r.os,r.bare,r.size⟩
theorem Rel.back {s:Shared}{d:Addr}{o o':AO} (r:Rel B (hp.set env.locals (.ns m)) s) (hd:hp d=some o') (hL:d≠env.locals) (ho:OR s.heap d o):Rel B ((hp.set d o).set env.locals (.ns m)) s:=
 ⟨r.keep,λa o' e=>by
  rw[Hp.sc _ _ _ hL]at e;by_cases h2:a=d
  .subst h2;rw[Hp.ss]at e;cases e;exact ⟨(r.objs a _ (by rw[Hp.sn _ _ hL];exact hd)).1,ho⟩
  .rw [Hp.sn _ _ h2]at e;exact r.objs _ _ e,r.os,r.bare,r.size⟩
structure DEx (PW:Program) (W0:World) (h:Heap) (d:Addr) (kvs:List (Int × AV)) (ps:List (Int × Value)) (ep:Nat) (od:Obj):Prop where
 hod:h.get? d=some od
 no:¬ Imm od
 hat:h.DictAt (intKind PW W0) d ps ep
 hid:IDict h d ps
 kv:KVR h kvs ps
 nd:(kvs.map (·.1)).Nodup
theorem Rel.dex {s:Shared}{d:Addr}{kvs:List (Int × AV)} (r:Rel B (hp.set env.locals (.ns m)) s) (hd:hp d=some (.dict kvs)) (hL:d≠env.locals):∃ ps ep od,DEx PW W0 s.heap d kvs ps ep od:=by refine hide λ_ Z=>?_;obtain ⟨ps,hid,hk1,hk2⟩:=r.at hd hL;obtain ⟨ep,hat⟩:=(hid.dictOf PW W0).dictAt;obtain ⟨od,es,_,hod,_,hdd,_,_,nd⟩:=id hid;apply Z;clear Z;exact ⟨ps,ep,od,hod,λi=>(by obtain ⟨_,_,_,e⟩:=i;rw[hdd]at e;cases e),hat,hid,⟨hk1,hk2⟩,by rw[<-hk1];exact nd⟩
theorem DEx.later {h h':Heap}{d:Addr}{kvs:List (Int × AV)}{ps:List (Int × Value)}{ep:Nat}{od:Obj} (D:DEx PW W0 h d kvs ps ep od) (e:h'.get? d=some od):h'.DictAt (intKind PW W0) d ps ep/\IDict h' d ps:=IDict.two D.hod D.hid D.hat e
theorem DEx.at {h:Heap}{d:Addr}{kvs:List (Int × AV)}{ps:List (Int × Value)}{ep:Nat}{od:Obj} (D:DEx PW W0 h d kvs ps ep od) {i:Nat} (hi:i < kvs.length):∃ k x v,kvs[i]?=some (k,x)/\ps[i]?=some (k,v)/\dget kvs k=some x/\VR h x v:=by
 refine hide λ_ Z=>?_;obtain ⟨⟨k,x⟩,hkx⟩:∃ y,kvs[i]?=some y:=⟨_,List.getElem?_eq_getElem hi⟩;obtain ⟨⟨k',v⟩,hpv⟩:∃ y,ps[i]?=some y:=⟨_,List.getElem?_eq_getElem (D.kv.length ▸ hi)⟩;have ek:k'=k:=by have a:=congrArg (λl=>l[i]?) D.kv.1;simp only[List.getElem?_map,hkx,hpv,Option.map_some,Option.some.injEq]at a;exact a
 subst ek;apply Z;clear Z;refine ⟨k',x,v,hkx,hpv,Zj4 D.nd hkx,?_⟩;refine hide λ_ Z=>?_;obtain ⟨v',e,hv⟩:=D.kv.2.get (i:=i) (x:=x) (by rw[List.getElem?_map,hkx];rfl);apply Z;clear Z;rw[List.getElem?_map,hpv]at e;cases e;exact hv
theorem Hp.del_set (hp:Hp) {a b:Addr} (o:AO) (h:a≠b):(hp.set a o).del b=(hp.del b).set a o:=by
 funext c;simp only[Hp.set,Hp.del];by_cases h1:c=b
 .subst h1;simp[Ne.symm h]
 .simp [h1]
end
theorem Zd9:entryFor table "set.__iter__" = some Builtin.«frozenset.__iter__»:=
 entryFor_alias (id' := "frozenset.__iter__") (by kernel_rfl) rfl (by decide +kernel) (by kernel_rfl)
theorem slot_si_next:Slot "set_iterator" "__next__" "set_iterator.__next__" :=
 .of (owner := "set_iterator") (n := "__next__") (by rw[typeLookup_type,builtinLookup_eq_fast];kernel_rfl) (by decide +kernel) (by decide +kernel) (by decide +kernel)
  (by first | exact .inl (by decide +kernel) | exact .inr (by decide +kernel)) (by rw[isSubtype_type];kernel_rfl)
theorem Ze1:entryFor table "set_iterator.__next__" = some Builtin.«set_iterator.__next__»:=entryFor_of_tree (by kernel_rfl)
theorem Zf5 (a:Value):argsOk "set_iterator.__next__" ⟨[a],[]⟩:=by unfold argsOk;kernel_rfl
section
variable {K:Frag}
theorem Zcp {s:Shared}{Q:Bool->Shared->Prop} (h:Q (W0.params.followText "set-order") s):wpAny (model PW W0) A setsByText Q E s:=by unfold setsByText;exact wB (wpAny_askSetting (wP h))
end
section
variable {K:Frag}
noncomputable def Other (B:Shared) (hp:Hp) (L:Addr) (a:Addr) (v:AV):Prop:=v = .none\/(∃ x,v = .str x)\/∃ b xs ys,v = .ref b/\Lst B hp L b ys/\Lst B hp L a xs/\a≠b
theorem Zib {a:Addr}{v:AV}{Q:QV} (ho:Other B hp env.locals a v) (h:Q (.bool false) hp):OP2 (model PW W0) A E B env (compareOp .Is) m (.ref a) v hp Q:=by
 rcases ho with rfl | ⟨x,rfl⟩ | ⟨b,xs,ys,rfl,hb,ha,hne⟩
 .exact Zce h
 .intro s u v r hu hv;simp only[VR]at hu hv;subst hu;obtain ⟨t,rfl⟩:=hv;show wpAny _ _ (do return Value.bool (<-isSame (.ref a) (.str x t))) _ _ _;exact wB (wP (wP (mkV (av:=.bool false) r (.refl _) VR_bool h)))
 .refine Zmc (λs r=>?_) (λs r=>?_) (by rw[show (a == b)=false from by simpa using hne];exact h)
  .obtain ⟨us,⟨o,ho,hc,_⟩,_⟩:=r.lst ha;exact ⟨o,ho,hc⟩
  .obtain ⟨us,⟨o,ho,hc,_⟩,_⟩:=r.lst hb;exact ⟨o,ho,hc⟩
theorem Zor {x:PySem.Str}{Q:QV} (hx:x.length < 1000) (h:Q (.int x.length) hp):CL (model PW W0) A E B env (.builtin "len") m [.str x] hp Q:=λs vs r hv=>by obtain ⟨v,rfl,h1⟩:=Zb6 hv;simp only[VR]at h1;obtain ⟨t,rfl⟩:=h1;exact PySem.P.len_str (by lia) ⟨.int x.length,hp,(r.toks _).toks _,.refl _,VR_int,h⟩
theorem Zgd {target func xe:Expr}{body:List Stmt} {cpos pos}{Q:QX} (hh:A.handled=none)
  (h:EV (model PW W0) A E B env func m hp λf hpY=>f = .ty "enumerate" /\ EVS (model PW W0) A E B env [xe] m hpY λvs hp₂=>vs=[.str (PySem.Str.ofString "")]/\Q .next m hp₂)
  (hc:autoParam (eval (.Call func [xe] [] cpos) env=(do callWith cpos (<-eval func env) [] (backTo cpos (starEach [xe] env)) (backToKw cpos (keywordEach [] env)))) rB)
  (he:autoParam (starEach [xe] env=[(false,eval xe env)]) rB)
  (hs:∀ x,foldedSetIterable (.Call func [xe] [] cpos) env x=pure x:=by intro _;rfl) :
  EX (model PW W0) A E B env (.For target (.Call func [xe] [] cpos) body [] pos) m hp Q:=λs r=>by
 refine wpAny_For (Call_ (h.use r λu sY f hpY rY leY hu yq=>?_) hc) hs;obtain ⟨hf,q⟩:=yq;subst hf;simp only[VR]at hu;subst hu;refine PyProof.Rows.callWith_type1 (Zcu (q cpos sY rY) λvs s₂ avs hp₂ r₂ le₂ hv q=>?_) he rfl;obtain ⟨rfl,q⟩:=q;obtain ⟨v,rfl,h1⟩:=Zb6 hv;simp only[VR]at h1;obtain ⟨t,rfl⟩:=h1;refine call_enumerate_str λh' hen hit hz hk=>?_;refine wpAny_pyIter_enum (s:={ s₂ with heap:=h' }) hen ?_;refine codeAny_forLoop_any (λ_ s'=>s'={ s₂ with heap:=h' }) (λn s' e=>?_) 0 rfl;subst e;rw[show strIterType (PySem.Str.ofString "") = "str_ascii_iterator" from by kernel_rfl]at hit;refine wpAny_pyNext_enum_endD (St:=λi h=>h.IsStrIter s₂.heap.objs.size "str_ascii_iterator" (PySem.Str.ofString "") t i) (n:=(PySem.Str.ofString "").cps.size) (Draws.strAscii (A:=A.in1) hh _ (PySem.Str.ofString "") t) hen (show h'.IsStrIter _ "str_ascii_iterator" (PySem.Str.ofString "") t (PySem.Str.ofString "").cps.size from hit) λh'' hx=>?_;have hk':∀ b o,s₂.heap.get? b=some o->h''.get? b=some o:=λb o e=>hx b o (Nat.ne_of_lt (Heap.lt_size e)) (hk b o e);have g:=r₂.grown hk' s₂.toks;exact wpAny_execs_nil ⟨.next,m,hp₂,g.1,(leY.trans le₂).trans g.2,rfl,q⟩
end
noncomputable def cut (h:Heap) (F:List Addr):Heap:={ h with objs:=h.objs.mapIdx λi o=>if i ∈ F then { o with data:=.freed } else o }
theorem Ze2 (h:Heap) (F:List Addr) (a:Addr):(cut h F).get? a=if a ∈ F then none else h.get? a:=by
 by_cases hF:a ∈ F
 .rw [if_pos hF];cases e:(cut h F).get? a with
  | none=>rfl
  | some o=>
   have:=(Heap.get?_some_iff.mp e);simp only[cut,Array.getElem?_mapIdx,if_pos hF]at this;obtain ⟨h1,h2⟩:=this;cases hx:h.objs[a]? with
   | none=>rw[hx]at h1;cases h1
   | some x=>rw[hx]at h1;cases h1;cases h2
 .rw [if_neg hF];have e:(cut h F).objs[a]?=h.objs[a]?:=by simp only[cut,Array.getElem?_mapIdx,if_neg hF];cases h.objs[a]? <;> rfl
  unfold Heap.get?;rw[e]
theorem Zm6 {h:Heap}{F:List Addr}{a:Addr} (i:a ∈ F):(cut h F).get? a=none:=by rw[Ze2,if_pos i]
theorem Zdy {h:Heap}{F:List Addr}{a:Addr} (i:a ∉ F):(cut h F).get? a=h.get? a:=by rw[Ze2,if_neg i]
theorem Zj5 {h:Heap}{F:List Addr}:(cut h F).StaysIn h:=λb o e=>by
 rw[Ze2]at e;by_cases i:b ∈ F
 .rw [if_pos i]at e;cases e
 .rwa [if_neg i]at e
structure FrOk (hp:Hp) (env:Env):Prop where
 kind:env.scope.kind≠.module
 frame:env.frame=some env.locals
 ns:∃ m,hp env.locals=some (.ns m)
structure Kept (B:Shared) (hp:Hp) (base:Heap) (s:Shared):Prop where
 keep:∀ b o,B.heap.get? b=some o->base.get? b=some o
 objs:∀ a o,hp a=some o->B.heap.get? a=none/\((∃ ob,base.get? a=some ob)/\OR base a o\/∃ m mv,o = .ns m/\s.heap.Ns a mv/\LocR base m mv)
 os:s.os=B.os
 bare:AllBare s.gens/\GensLe B.gens s.gens
theorem Kept.rel {B:Shared}{hp:Hp}{base:Heap}{s:Shared} (k:Kept B hp base s) (st:base.StaysIn s.heap):Rel B hp s where
 keep b o e:=st b o (k.keep b o e)
 objs a o e:=by
  obtain ⟨h1,h2⟩:=k.objs a o e;refine ⟨h1,?_⟩;rcases h2 with ⟨_,h3⟩ | ⟨m,mv,rfl,hn,hm⟩
  .exact h3.here (ImmLe.keep st) λo' e'=>st a o' e'
  .exact ⟨mv,hn,hm.mono (ImmLe.keep st)⟩
 os:=k.os
 bare:=k.bare
 size:=trivial
theorem Kept.step {B:Shared}{hp:Hp}{base:Heap}{s:Shared} (k:Kept B hp base s) {h':Heap} (u:s.heap.UpToSlots h'):Kept B hp base { s with heap:=h' } where
 keep:=k.keep
 objs a o e:=by
  obtain ⟨h1,h2⟩:=k.objs a o e;refine ⟨h1,?_⟩;rcases h2 with h3 | ⟨m,mv,rfl,hn,hm⟩
  .exact .inl h3
  .exact .inr ⟨m,mv,rfl,u.ns hn,hm⟩
 os:=k.os
 bare:=k.bare
theorem Kept.sub {B:Shared}{hp hp':Hp}{base:Heap}{s:Shared} (k:Kept B hp base s) (le:∀ a o,hp' a=some o->hp a=some o):Kept B hp' base s:=⟨k.keep,λa o e=>k.objs a o (le a o e),k.os,k.bare⟩
theorem Kept.base {B:Shared}{hp:Hp}{s:Shared} (r:Rel B hp s) {l:List Env} (F:∀ v ∈ l,FrOk hp v):Kept B hp (cut s.heap (l.map (·.locals))) s where
 keep b o e:=by rw[Zdy,r.keep b o e];intro i;obtain ⟨v,hv,rfl⟩:=List.mem_map.mp i;obtain ⟨m,hm⟩:=(F v hv).ns;exact noE (r.objs _ _ hm).1 e
 objs a o e:=by
  have le:ImmLe s.heap (cut s.heap (l.map (·.locals))):=λb ob eb ib=>by rw[Zdy];exact eb;intro i;obtain ⟨v,hv,rfl⟩:=List.mem_map.mp i;obtain ⟨m,hm⟩:=(F v hv).ns;exact (r.objs _ _ hm).2.notImm ob eb ib
  refine ⟨(r.objs a o e).1,?_⟩;by_cases i:a ∈ l.map (·.locals)
  .obtain ⟨v,hv,rfl⟩:=List.mem_map.mp i;obtain ⟨m,hm⟩:=(F v hv).ns;rw[hm]at e;cases e;obtain ⟨mv,hn,hl⟩:=(r.objs _ _ hm).2;exact .inr ⟨m,mv,rfl,hn,hl.mono le⟩
  .have h2:=(r.objs a o e).2;obtain ⟨ob,hob⟩:=h2.ex;exact .inl ⟨⟨ob,by rw[Zdy i];exact hob⟩,h2.here le λo' e'=>by rw[Zdy i];exact e'⟩
 os:=r.os
 bare:=r.bare
theorem Zfx {B:Shared}{hp:Hp}{s:Shared} (r:Rel B hp s) {base:Heap}:∀ {l:List Env},(∀ v ∈ l,FrOk hp v)->(∀ v ∈ l,base.get? v.locals=none)->s.heap.FunFrames base l
 | [],_,_=>trivial
 | v :: l,F,N=>by obtain ⟨m,hm⟩:=(F v (.head _)).ns;obtain ⟨mv,⟨o,es,ep,ho,hd,_⟩,_⟩:=(r.objs _ _ hm).2;exact ⟨(F v (.head _)).kind,⟨_,o,(F v (.head _)).frame,N v (.head _),ho,λvs q=>by rw[hd]at q;cases q⟩,Zfx r (λv h=>F v (.tail _ h)) λv h=>N v (.tail _ h)⟩
inductive Fly (B:Shared) (hp:Hp) (l:List Env) (cls:String) (e:Addr) (s:Shared):Prop where
 | mk (a0:Value) (base:Heap) (fly:Heap.FlyingW base l e (.type cls) a0 s.heap) (k:Kept B hp base s)
theorem Fly.rel {B:Shared}{hp:Hp}{l:List Env}{cls:String}{e:Addr}{s:Shared} (f:Fly B hp l cls e s):Rel B hp s:=by obtain ⟨_,_,fly,k⟩:=f;exact k.rel fly.1
theorem Fly.sub {B:Shared}{hp hp':Hp}{l:List Env}{cls:String}{e:Addr}{s:Shared} (f:Fly B hp l cls e s) (le:∀ a o,hp' a=some o->hp a=some o):Fly B hp' l cls e s:=by obtain ⟨a0,base,fly,k⟩:=f;exact ⟨a0,base,fly,k.sub le⟩
theorem Fly.ty {B:Shared}{hp:Hp}{l:List Env}{cls:String}{e:Addr}{s:Shared} (f:Fly B hp l cls e s):s.TypeIs (.ref e) cls:=by obtain ⟨_,_,fly,_⟩:=f;exact fly.there
section
variable {M:Model}{A:Around}{E:ET}{B:Shared}{env:Env}{outer:List Env}{hp:Hp}{s:Shared}{cls:String}
theorem Zo3 {h':Heap}{tk:Nat}{e:Addr}{Q:Unit->Shared->Prop} (r:Rel B hp s) (hx:Heap.NewExc s.heap h' e cls) (hfr:A.frames=some (env :: outer)) (F:∀ v ∈ env :: outer,FrOk hp v)
  (hQ:∀ s',Fly B hp outer cls e s'->Q () s'):wpAny M A (leaving env (.ref e)) Q E { s with heap:=h',toks:=tk }:=by
 have K:=Kept.base r F;obtain ⟨ob,t,he,hc,hd⟩:=hx.there;have st:(cut s.heap ((env :: outer).map (·.locals))).StaysIn h':=λb o x=>hx.keeps b o (Zj5 b o x);have hen:(cut s.heap ((env :: outer).map (·.locals))).get? e=none:=by rw[Ze2,hx.new];exact ite_self _
 have FF:h'.FunFrames (cut s.heap ((env :: outer).map (·.locals))) (env :: outer):=(Zfx r F λv hv=>Zm6 (List.mem_map_of_mem hv)).of_keeps λb o x _=>⟨o,hx.keeps b o x,rfl⟩;have u:s.heap.UpToSlots h':=.of_keeps hx.keeps;refine wpAny_leaving_firstW (a0:=t) (L:=env.locals) hfr FF (F env (.head _)).frame he st hen hd rfl rfl λh'' hL=>?_;obtain ⟨k1,⟨_,_,k2⟩,k3,k4⟩:=hL;rw[hc]at k3;refine hQ _ ⟨t,_,⟨k1,hen,k2,k3⟩,?_⟩;have K2:Kept B hp (cut s.heap ((env :: outer).map (·.locals))) { s with heap:=h'' }:=K.step (u.trans k4);exact ⟨K2.keep,K2.objs,K2.os,K2.bare⟩
theorem Fly.lands {e:Addr}{Q:Unit->Shared->Prop} (f:Fly B hp (env :: outer) cls e s) (hfr:A.frames=some (env :: outer)) (hf:env.frame=some env.locals) (hQ:∀ s',Fly B hp (env :: outer) cls e s'->Q () s') :
  wpAny M A (noteFrame (.ref e) env) (λ_ s₂=>wpAny M A (setFlight (.ref e) none) Q E s₂) E s:=by
 obtain ⟨a0,base,fly,k⟩:=f;refine wpAny_looks_onW hfr hf fly λh' f' u=>?_;refine wpAny_landsW f' λh'' f'' u'=>?_;exact hQ _ ⟨a0,base,f'',(k.step u).step u'⟩
theorem Fly.again {e:Addr}{Q:Unit->Shared->Prop} (f:Fly B hp (env :: outer) cls e s) (hQ:∀ s',Fly B hp (env :: outer) cls e s'->Q () s'):wpAny M A (setFlight (.ref e) none) Q E s:=by obtain ⟨a0,base,fly,k⟩:=f;exact lands_againW fly λh' f' u=>hQ _ ⟨a0,base,f',k.step u⟩
end
noncomputable def rebased (s:Shared) (hp:Hp):Shared:={ s with heap:=cut s.heap ((List.range s.heap.objs.size).filter λa=>(hp a).isSome) }
theorem rebased_mem {s:Shared}{hp:Hp}{a:Addr}:a ∈ ((List.range s.heap.objs.size).filter λa=>(hp a).isSome) ↔ a < s.heap.objs.size/\(hp a).isSome=true:=by simp[List.mem_filter,List.mem_range]
theorem Zdt {s:Shared}{hp:Hp}{a:Addr}{o:Obj} (h:hp a=none) (e:s.heap.get? a=some o):(rebased s hp).heap.get? a=some o:=by show (cut _ _).get? a=_;rw[Zdy];exact e;intro i;have:=(rebased_mem.mp i).2;rw[h]at this;cases this
section
variable {B:Shared}{hp hp':Hp}{s s':Shared}
theorem Rel.rebased (r:Rel B hp s):Rel (rebased s hp) hp s where
 keep b o e:=Zj5 b o e
 objs a o e:=⟨Zm6 (rebased_mem.mpr ⟨r.lt e,by rw[e];rfl⟩),(r.objs a o e).2⟩
 os:=rfl
 bare:=⟨r.bare.1,.refl _⟩
 size:=trivial
theorem Rel.base_le (r:Rel B hp s):∀ b o,B.heap.get? b=some o->(Mine.rebased s hp).heap.get? b=some o:=λb o e=>by
 refine Zdt ?_ (r.keep b o e);cases h:hp b with
 | none=>rfl
 | some x=>exact noE (r.objs b x h).1 e
theorem Rel.unbase (r:Rel B hp s) (r':Rel (Mine.rebased s hp) hp' s'):Rel B hp' s'/\ImmLe s.heap s'.heap:=by
 refine ⟨⟨λb o e=>r'.keep b o (r.base_le b o e),λa o e=>⟨?_,(r'.objs a o e).2⟩,r'.os.trans r.os,⟨r'.bare.1,r.bare.2.trans r'.bare.2⟩,trivial⟩,λb o e i=>r'.keep b o (Zdt ?_ e)⟩
 .cases h:B.heap.get? a with
  | none=>rfl
  | some x=>exact noE (r'.objs a o e).1 (r.base_le a x h)
 .cases h:hp b with
  | none=>rfl
  | some x=>exact absurd i ((r.objs b x h).2.notImm o e)
theorem Gnd.up {K:Frag}{B B':Shared} (G:Gnd K B) (k:∀ b o,B.heap.get? b=some o->B'.heap.get? b=some o):Gnd K B':=by obtain ⟨mg,mb,h1,h2,h3⟩:=G.top;obtain ⟨o,h4⟩:=G.sys;exact ⟨G.X.keeps k,⟨mg,mb,h1.keeps k,h2.keeps k,h3⟩,G.lim.keeps k,⟨o,k _ _ h4⟩⟩
end
section
variable {A:Around}{E:ET}{B:Shared}{env:Env}{outer:List Env}{m:Loc}{hp:Hp}{K:Frag}
noncomputable def HND (PW:Program) (W0:World) (A:Around) (B:Shared) (env:Env) (outer:List Env) (hs:List ExceptHandler) (m:Loc) (hp:Hp) (cls:String) (Q:QX):Prop:=
 ∀ E e s h0,Fly B (hp.set env.locals (.ns m)) (env :: outer) cls e s->(∀ {hp':Hp}{s':Shared},Rel B hp' s'->ImmLe h0 s'.heap)->wpAny (model PW W0) A (handleBy (.ref e) env hs) (PX B env.locals h0 Q) E s
theorem Zqd {body:List Stmt} {hZ:ExceptHandler}{hs:List ExceptHandler}{pos:Pos}{Q:QX} (X:String->Prop) (hfr:A.frames=some (env :: outer)) (F:∀ v ∈ env :: outer,FrOk (hp.set env.locals (.ns m)) v)
  (h:∀ B' E',(∀ b o,B.heap.get? b=some o->B'.heap.get? b=some o)->(∀ cls e s',X cls->Fly B' (hp.set env.locals (.ns m)) (env :: outer) cls e s'->E' (.ref e) s') ->
   EXs (model PW W0) A E' B' env body m hp Q)
  (hH:∀ B' cls,(∀ b o,B.heap.get? b=some o->B'.heap.get? b=some o)->X cls->HND PW W0 A B' env (outer) (hZ :: hs) m hp cls Q) :
  EX (model PW W0) A E B env (.Try body (hZ :: hs) [] [] pos) m hp Q:=λs r=>by
 have k:=r.base_le;have back:∀ {f:Flow}{s':Shared},PX (Mine.rebased s (hp.set env.locals (.ns m))) env.locals s.heap Q f s'->PX B env.locals s.heap Q f s':=λ⟨af,m',hp',r',_,hf,q⟩=>⟨af,m',hp',(r.unbase r').1,(r.unbase r').2,hf,q⟩;refine wpAny_Try_except (wpAny_mono (h (Mine.rebased s (hp.set env.locals (.ns m))) (λe sY=>wpAny (model PW W0) A (noteFrame e env) (λ_ s₂=>wpAny (model PW W0) A (setFlight e none) (λ_ s₃=>wpAny (model PW W0) A (handleBy e env (hZ :: hs)) (PX B env.locals s.heap Q) E s₃) E s₂) E sY) k (λcls e s' hX f=>f.lands hfr (F env (.head _)).frame λs₃ f'=>wpAny_mono (hH _ cls k hX E e s₃ s.heap f' λr'=>(r.unbase r').2) (λ_ _ x=>back x) λ_ _ x=>x) s r.rebased) (λf sY x=>?_) λ_ _ x=>x);cases f with
 | next=>exact wpAny_execs_nil (back x)
 | brk=>exact back x
 | cont=>exact back x
 | ret v=>exact back x
theorem Zmg {T cls:String}{x:PySem.Str}{npos pos:Pos} {bZ:Stmt}{suite:List Stmt}{rest:List ExceptHandler}{Q:QX} (G:Gnd K B) (e:nsIn K mainGlobals x=some none) (hb:bootBuiltins x=some (.type T)) (hn:x ≠ "__name__")
  (hexc:isSubtype (.type T) (.type "BaseException")=pure true) (hnt:isSubtype (.type ((Manifest.find? T).elim "type" λx=>x.metatype)) (.type "tuple")=pure false) (hsub:isSubtype (.type cls) (.type T)=pure false)
  (h:HND PW W0 A B env outer rest m hp cls Q)
  (hk:autoParam (env.scope.kind = .function) rB) (hx:autoParam (env.kindOf x=some .globalImplicit) rB) (hg:autoParam (env.globals=mainGlobals) rB) (hbl:autoParam (env.builtins=builtinsNs) rB) (hd:(x == ("__debug__" : PySem.Str))=false:=by decide) :
  HND PW W0 A B env outer (.ExceptHandler (some (.Name x npos)) none (bZ :: suite) pos :: rest) m hp cls Q:=λE ea s h0 f hI=>by
 obtain ⟨mg,mb,g,b,bb⟩:=G.top;have r:=f.rel;refine wpAny_handleBy_builtin (T:=T) (X:=cls) (b:=false) hexc hnt hsub ?_;exact Name_function_global hk hx (loadGlobal_builtin (hg ▸ g.keeps r.keep) (mg_none_of G.X g e) (hbl ▸ b.keeps r.keep) ((bb x hn).trans hb) ⟨rfl,f.ty,h E ea s h0 f hI⟩) hd
theorem Zkq {T cls:String}{x:PySem.Str}{npos pos:Pos} {bZ:Stmt}{suite:List Stmt}{rest:List ExceptHandler}{Q:QX} (G:Gnd K B) (e:nsIn K mainGlobals x=some none) (hb:bootBuiltins x=some (.type T)) (hn:x ≠ "__name__")
  (hexc:isSubtype (.type T) (.type "BaseException")=pure true) (hnt:isSubtype (.type ((Manifest.find? T).elim "type" λx=>x.metatype)) (.type "tuple")=pure false) (hsub:isSubtype (.type cls) (.type T)=pure true)
  (h:∀ A',EXs (model PW W0) A' (λ_ _=>False) B env (bZ :: suite) m hp Q)
  (hk:autoParam (env.scope.kind = .function) rB) (hx:autoParam (env.kindOf x=some .globalImplicit) rB) (hg:autoParam (env.globals=mainGlobals) rB) (hbl:autoParam (env.builtins=builtinsNs) rB) (hd:(x == ("__debug__" : PySem.Str))=false:=by decide) :
  HND PW W0 A B env outer (.ExceptHandler (some (.Name x npos)) none (bZ :: suite) pos :: rest) m hp cls Q:=λE ea s h0 f hI=>by
 obtain ⟨mg,mb,g,b,bb⟩:=G.top;have r:=f.rel;refine wpAny_handleBy_builtin (T:=T) (X:=cls) (b:=true) hexc hnt hsub ?_;refine Name_function_global hk hx (loadGlobal_builtin (hg ▸ g.keeps r.keep) (mg_none_of G.X g e) (hbl ▸ b.keeps r.keep) ((bb x hn).trans hb) ⟨rfl,f.ty,?_⟩) hd;rw[if_pos rfl];refine f.again λs₂ f₂=>?_;exact wpAny_mono (h _ s₂ f₂.rel) (λfl s₃ ⟨af,m',hp',r',_,hf,q⟩=>⟨af,m',hp',r',hI r',hf,q⟩) λ_ _ x=>x.elim
end
noncomputable def THR (E:ET) (B:Shared) (env:Env) (hb:Hp) (cls:String):Prop:=
 ∀ mY hpY,Hp.Le hb hpY->∀ s h' tk e,Rel B (hpY.set env.locals (.ns mY)) s->Heap.NewExc s.heap h' e cls->E (.ref e) { s with heap:=h',toks:=tk }
section
variable {A:Around}{E:ET}{B:Shared}{env:Env}{outer:List Env}{m:Loc}{hp:Hp}{K:Frag}
theorem Zqh {f:Addr}{fd:FuncData}{body:List Stmt}{avs:List AV}{bs:List (PySem.Str × AV)}{Q:QV} (G:Gnd K B) (ho:K.lookup f=some ⟨.type "function",none,.func fd,#[]⟩) (hcd:codeIn K fd.code fd.qualname=true)
  (hbody:fd.body = .stmts body) (hroom:A.depth < recursionLimit)
  (hbind:∀ s vs,VRs s.heap avs vs->(∀ b o,B.heap.get? b=some o->s.heap.get? b=some o)->∃ us:List (PySem.Str × Value),BindsTo s fd ⟨vs,[]⟩ us/\us.reverse.map (·.1)=bs.map (·.1)/\VRs s.heap (bs.map (·.2)) (us.reverse.map (·.2)))
  (hloc:bs.all (λx=>fd.scope.names.lookup x.1 == some .local)=true) (hcell:∀ x ∈ fd.scope.names,x.2≠.cell)
  (X:String->Prop) (hfr:A.frames=some (env :: outer)) (F:∀ v ∈ env :: outer,FrOk (hp.set env.locals (.ns m)) v)
  (hE:∀ cls e s',X cls->Fly B (hp.set env.locals (.ns m)) (env :: outer) cls e s'->E (.ref e) s')
  (h:∀ L,hp L=none->L≠env.locals->∀ E',PassesOwn (model PW W0) (A.deeper (callEnv fd L f)) (callEnv fd L f) E'->(∀ cls,X cls->THR E' B (callEnv fd L f) (hp.set env.locals (.ns m)) cls) ->
   EXs (model PW W0) (A.deeper (callEnv fd L f)) E' B (callEnv fd L f) body (locOf bs) (hp.set env.locals (.ns m)) (RET L env m Q))
  (hco:autoParam (fd.scope.isCoroutine=false) rB) (hgen:autoParam (fd.scope.isGenerator=false) rB) (hk:autoParam (fd.scope.kind = .function) rB) :
  CD (model PW W0) A E B env (.ref f) m avs hp Q:=λs vs r hv=>by
 obtain ⟨us,hb,e1,e2⟩:=hbind s vs hv r.keep;have nm:us.map (·.1)=(bs.map (·.1)).reverse:=by rw[<-e1,List.map_reverse,List.reverse_reverse]
 refine codeAny_call_def hroom (r.keep _ _ (G.X _ _ ho)) rfl (G.lim.keeps r.keep) (codeRec_of (G.X.keeps r.keep) hcd) hbody hb hcell (λx hx=>?_) (λhZ hns hkZ=>?_) hco hgen hk
 .have:x.1 ∈ bs.map (·.1):=by rw[<-List.mem_reverse,<-nm];exact List.mem_map_of_mem hx
  obtain ⟨y,hy,e⟩:=List.mem_map.mp this;rw[<-e]
  simpa using List.all_eq_true.mp hloc y hy
 .have hne:s.heap.objs.size≠env.locals:=λe=>by have f:=r.fresh;rw[e,Hp.ss]at f;cases f
  have hfr':hp s.heap.objs.size=none:=by have f:=r.fresh;rw[Hp.sn _ _ hne]at f;exact f
  have le:ImmLe s.heap hZ:=ImmLe.keep hkZ;have rel:Rel B ((hp.set env.locals (.ns m)).set (callEnv fd s.heap.objs.size f).locals (.ns (locOf bs))) { s with heap:=hZ,toks:=s.toks + us.length }:=by
   refine ⟨λb o e=>hkZ _ _ (r.keep b o e),λa o' e=>?_,r.os,r.bare,trivial⟩;by_cases ha:a=s.heap.objs.size
   .subst ha;rw[show (callEnv fd s.heap.objs.size f).locals=s.heap.objs.size from rfl,Hp.ss]at e;cases e;exact ⟨r.nob (Nat.le_refl _),_,hns,Zgp e1 (e2.mono le)⟩
   .rw [show (callEnv fd s.heap.objs.size f).locals=s.heap.objs.size from rfl,Hp.sn _ _ ha]at e;exact ⟨(r.objs a o' e).1,(r.objs a o' e).2.here le λo'' e=>hkZ _ _ e⟩
  have hbL:(hp.set env.locals (.ns m)) s.heap.objs.size=none:=r.fresh;refine wpAny_mono (h _ hfr' hne _ PassesOwn.leaving (λcls hX mY hpY hle sY h' tk e rY hx=>?_) _ rel) (λfl s' x=>?_) λ_ _ x=>x
  .have F':∀ v ∈ callEnv fd s.heap.objs.size f :: env :: outer,FrOk (hpY.set s.heap.objs.size (.ns mY)) v:=λv hv=>by
    rcases List.mem_cons.mp hv with rfl | hv
    .exact ⟨by show fd.scope.kind≠_;rw[hk];decide,rfl,_,Hp.ss ..⟩
    .obtain ⟨h1,h2,mm,h3⟩:=F v hv;refine ⟨h1,h2,mm,Hp.snt (λe=>?_) (hle _ _ h3)⟩;rw[show v.locals=s.heap.objs.size from e,hbL]at h3;cases h3
   refine Zo3 (outer:=env :: outer) rY hx (by show A.frames.map _=_;rw[hfr];rfl) F' λs'' f'=>hE cls _ _ hX (f'.sub λa o ho=>?_);exact Hp.snt (λe=>by rw[show a=s.heap.objs.size from e,hbL]at ho;cases ho) (hle a o ho)
  .obtain ⟨af,m',hp',r',le',hf,hp₂,hsub,hn,q⟩:=x;refine mkV (av:=Zd6 af) (r'.sub λa o e=>?_) (le.trans le') (Zg8 hf) q;rw[show (callEnv fd s.heap.objs.size f).locals=s.heap.objs.size from rfl,Hp.sn _ _ (λe'=>by rw[e',Hp.sn _ _ hne,hn]at e;cases e)];exact hsub a o e
end
section
variable {A:Around}{E:ET}{B:Shared}{env:Env}{outer:List Env}{m:Loc}{hp hb:Hp}{K:Frag}
theorem Zgz {value slice:Expr}{a:Addr}{xs:List AV}{k:Int}{Q:QV} (hh:A.handled=none) (T:THR E B env hb "IndexError") (hle:Hp.Le hb hp) (hl:Lst B hp env.locals a xs) (h0:(xs.length:Int)<=k) (hhi:k < 2 ^ 63)
  (hs:∀ u,subscripted slice false (.ref a) (.int k u)=operate [.ref a,.int k u] (getItem (.ref a) (.int k u)):=by intro _;with_unfolding_all rfl) :
  SUB (model PW W0) A E B env value slice m (.ref a) (.int k) hp Q:=λs u v r hu hv=>by
 simp only[VR]at hu hv;obtain ⟨t,rfl⟩:=hv;subst hu;obtain ⟨vs,hl,hvs⟩:=r.lst hl;have hlen:=hvs.length;have hsz:(vs.size:Int)=xs.length:=by rw[<-Array.length_toList,hlen]
 refine tail_any hl.typeIs slot_list_getitem.lookup (wpAny_getItem_list_out hh hl (.inr (by (exact fk [_,_] [_] 0x783873839077380 0x1011 rfl h0 hsz))) (by lia) hhi λh' tk e hx=>?_) (hs _);exact T m hp hle s h' tk e r hx
theorem Zgo:typeLookup (.type "list") "__hash__" = pure (some .none):=by rw[typeLookup_type,builtinLookup_eq_fast];kernel_rfl
theorem Zep:typeName (.type "list")=pure "list" := by unfold typeName;rw[find?_eq_fast];kernel_rfl
theorem Zjo {l:Addr}{s:Shared}{Q:Int->Shared->Prop} (hh:A.handled=none) (hu:A.units < cLine) (hT:s.TypeIs (.ref l) "list") (h:∀ h' tk e,Heap.NewExc s.heap h' e "TypeError" -> E (.ref e) { s with heap:=h',toks:=tk }) :
  wpAny (model PW W0) A (pyHash (.ref l)) Q E s:=by
 unfold pyHash pyHashByItsType specialOf;refine wB (wpAny_cRoomFor hu (wB (wB (wpAny_typeOf hT ?_))));rw[Zgo];refine wP ?_;rw[if_pos (by rfl)];refine wB (wpAny_rule ?_);unfold PySem.typeNameOf shownTypeOf;refine wB (wB (wB (wpAny_typeOf hT ?_)));simp only[show (Value.type "list" == Value.type "builtin_function_or_method")=false by decide,Bool.false_eq_true,if_false];refine wP ?_;rw[Zep];refine wP ?_;refine wB ?_
 exact_raiseError plainExc_TypeError hh h
theorem Zd7 (d l:Addr) (dflt:Value) :
  MeetsIn PW W0 (Builtin.«dict.get» ⟨[.ref d,.ref l,dflt],[]⟩) (λA R s=>A.handled=none/\A.units + 10 < cLine/\s.TypeIs (.ref l) "list" /\ ∀ h' tk e,Heap.NewExc s.heap h' e "TypeError" -> R (.error (.ref e)) { s with heap:=h',toks:=tk }):=
 .of_wp λA R s ⟨hh,hu,hT,h⟩=>by
  show wpAny _ _ (dictGet d (.ref l) >>= _) _ _ s;refine wB ?_;unfold dictGet;refine wpAny_holding (wB (Zjo (by exact hh) ?_ hT h));show A.units + _ < cLine
  (exact ul ‹_› (by decide))
theorem Zg5 {d l:Addr}{kvs:List (Int × AV)}{xs:List AV}{dv:AV}{Q:QV} (hh:A.handled=none) (hu:A.units + 10 < cLine) (T:THR E B env hb "TypeError") (hle:Hp.Le hb hp) (hd:hp d=some (.dict kvs)) (hL:d≠env.locals)
  (hl:Lst B hp env.locals l xs):CL (model PW W0) A E B env (.builtin "dict.get") m [.ref d,.ref l,dv] hp Q:=λs vs r hv=>by
 obtain ⟨v,u,x,rfl,h1,h2,h3⟩:∃ u v x,vs=[u,v,x]/\VR s.heap (.ref d) u/\VR s.heap (.ref l) v/\VR s.heap dv x:=by simp only[VRs]at hv;obtain ⟨v,r,rfl,h1,u,r',rfl,h2,z,r'',rfl,h3,rfl⟩:=hv;exact ⟨_,_,_,rfl,h1,h2,h3⟩
 simp only[VR]at h1 h2;subst h1;subst h2;obtain ⟨ps,hD,hK⟩:=r.dict hd hL;obtain ⟨ys,hls,_⟩:=r.lst hl;exact call_meetsIn F.slot_dict_get (hD PW W0).typeIs F.entry_dict_get (F.args_dict_get_3 _ _ _) (Zd7 d l x) ⟨hh,hu,hls.typeIs,λh' tk e hx=>T m hp hle s h' tk e r hx⟩
end
theorem Za8 {o:Obj} (h:∀ xs n,o.data≠.seq xs n):¬ Imm o:=λ⟨_,xs,n,e⟩=>h xs n e
section
variable {K:Frag}
structure LamAt (hp:Hp) (L f:Addr) (qual:PySem.Str) (params:Arguments) (body:Expr) (scope:Scope) (cl:List (PySem.Str × Addr)):Prop where
 ex:∃ c pm ctv oc vs tq,hp f=some (.obj (kla_obj "<lambda>" qual params body scope cl pm c ctv))/\f≠L/\hp c=some (.obj oc)/\c≠L/\oc.data = .fields vs/\vs[1]?=some (.str qual tq)
theorem Zkv {params:Arguments}{body:Expr}{scope:Scope}{pos:Pos}{c P:Addr}{ps:Array Value}{clos:List (PySem.Str × Addr)}{Q:QV} (hX:CodeHd B.heap c P) (hb:∃ mg,B.heap.Ns mainGlobals mg/\B.heap.BuiltinsAt mg P)
  (hcode:env.code = .ref c) (hge:env.globals=mainGlobals) (hP:hp P=some (.obj (tabObj ps))) (hPL:P≠env.locals) (ht:TriplesOk ps.toList) (hnf:codeAmong pos ps.toList=none)
  (hcl:closureFor scope env=pure clos) (hdef:defaultsOf params env=([],[]))
  (h:∀ hp' f ps',LamAt hp' env.locals f (env.qual ++ "<lambda>") params body scope clos->hp f=none->f≠env.locals->hp' P=some (.obj (tabObj ps'))->(∀ z o,z≠P->hp z=some o->hp' z=some o)->Q (.ref f) hp') :
  EV (model PW W0) A E B env (.Lambda params body scope pos) m hp Q:=λs r=>by
 obtain ⟨mg,g,bu⟩:=hb;have hPs:=(r.at hP hPL).1;have bu':s.heap.BuiltinsAt mg P:=by obtain ⟨bm,o,b1,b2,b3,b4,b5,b6⟩:=bu;exact ⟨bm,o,b1,b2,b3,b4,r.keep _ _ b5,b6⟩
 have hgP:mainGlobals≠P:=λe=>by have:=(r.objs P _ (Hp.snt hPL hP)).1;obtain ⟨o,es,ep,ho,_⟩:=g;rw[e,this]at ho;cases ho
 refine kla_eval hdef (kla_makeFunction (mg:=mg) hcl hge (g.keeps r.keep) hcode (hX.keeps r.keep) hPs ht hnf hgP bu' λc' ctv h' tk hx hge' hlt hrec htb=>?_);obtain ⟨c₂,oc,vs,tq,e2,hoc,hd,hv⟩:=hrec;cases e2;have hPB:=(r.objs P _ (Hp.snt hPL hP)).1;have k1:∀ b o,b≠P->s.heap.get? b=some o->(h'.push (kla_obj "<lambda>" (env.qual ++ "<lambda>") params body scope clos ((mg "__name__").getD .none) c' ctv)).get? b=some o:=λb o hb e=>Heap.get?_push_of_some _ (hx b o hb e)
 have le:ImmLe s.heap (h'.push (kla_obj "<lambda>" (env.qual ++ "<lambda>") params body scope clos ((mg "__name__").getD .none) c' ctv)):=λb o e i=>k1 b o (λeb=>by rw[eb,hPs]at e;cases e;obtain ⟨_,xs,n,e⟩:=i;cases e) e
 have hs0:s.heap.objs.size<=h'.objs.size:=Nat.le_of_lt (Nat.lt_of_le_of_lt hge' hlt);have fr:∀ a,s.heap.objs.size<=a->(hp.set env.locals (.ns m)) a=none:=λa ha=>by
  cases e:(hp.set env.locals (.ns m)) a with
  | none=>rfl
  | some o=>
   obtain ⟨ob,e'⟩:=(r.objs a o e).2.ex;exact absurd (Heap.lt_size e') (Nat.not_lt.mpr ha)
 have hne:∀ a,s.heap.objs.size<=a->a≠env.locals:=λa ha e=>by have:=fr a ha;rw[e,Hp.ss]at this;cases this
 have hn:∀ a,s.heap.objs.size<=a->hp a=none:=λa ha=>Hp.snr (hne a ha) (fr a ha);have hcf:c'≠h'.objs.size:=Nat.ne_of_lt hlt;have hPc:P≠c':=Hp.ne_of hP (hn c' hge');have hPf:P≠h'.objs.size:=Hp.ne_of hP (hn _ hs0);refine mkV (av:=.ref _) (hp':=((hp.set P (.obj (tabObj (ps ++ #[rawInt pos.line,rawInt pos.col,.ref c'])))).set c' (.obj oc)).set h'.objs.size (.obj (kla_obj "<lambda>" (env.qual ++ "<lambda>") params body scope clos ((mg "__name__").getD .none) c' ctv))) ⟨λb o e=>k1 b o (λeb=>by rw[eb,hPB]at e;cases e) (r.keep b o e),λa o e=>?_,r.os,r.bare,trivial⟩ le VR_ref (h _ _ _ ⟨c',_,ctv,oc,vs,tq,Hp.ss ..,hne _ hs0,Hp.snt hcf (Hp.ss ..),hne _ hge',hd,hv⟩ (hn _ hs0) (hne _ hs0) (Hp.snt hPf (Hp.snt hPc (Hp.ss ..))) λz o hz e=>?_)
 .by_cases ha:a=env.locals
  .subst ha;rw[Hp.ss]at e;cases e;have:=r.objs env.locals _ (Hp.ss ..);exact ⟨this.1,this.2.here le λo' e'=>k1 _ _ (Ne.symm hPL) e'⟩
  rw[Hp.sn _ _ ha]at e;by_cases hf:a=h'.objs.size
  .subst hf;rw[Hp.ss]at e;cases e;exact ⟨r.nob hs0,Heap.get?_push_size _ rfl,Za8 (λxs n e=>by cases e)⟩
  rw[Hp.sn _ _ hf]at e;by_cases hc:a=c'
  .subst hc;rw[Hp.ss]at e;cases e;exact ⟨r.nob hge',Heap.get?_push_of_some _ hoc,Za8 (λxs n e=>by rw[hd]at e;cases e)⟩
  rw[Hp.sn _ _ hc]at e;by_cases hp':a=P
  .subst hp';rw[Hp.ss]at e;cases e;exact ⟨hPB,Heap.get?_push_of_some _ htb,Za8 (λxs n e=>by cases e)⟩
  rw[Hp.sn _ _ hp']at e;have:=r.objs a o (Hp.snt ha e);exact ⟨this.1,this.2.here le λo' e'=>k1 _ _ hp' e'⟩
 .exact Hp.snt (Hp.ne_of e (hn _ hs0)) (Hp.snt (Hp.ne_of e (hn _ hge')) (Hp.snt hz e))
end
noncomputable abbrev Zeh (qual:PySem.Str) (scope:Scope) (cl:List (PySem.Str × Addr)) (L f c:Addr):Env:=newEnv scope L mainGlobals cl (qual ++ ".<locals>.") (some f) (.ref c) none builtinsNs
section
variable {K:Frag}
theorem Zqf {f:Addr}{qual:PySem.Str}{params:Arguments}{body:Expr}{scope:Scope}{cl:List (PySem.Str × Addr)}{avs:List AV}{bs:List (PySem.Str × AV)}{Q:QV} (G:Gnd K B) (F:LamAt hp env.locals f qual params body scope cl) (hroom:A.depth < recursionLimit)
  (hbind:∀ (s:Shared) vs c pm ctv,VRs s.heap avs vs->∃ us:List (PySem.Str × Value),bindArgs (kla_fn "<lambda>" qual params body scope cl pm (.ref c) ctv) ⟨vs,[]⟩=pure us/\us.reverse.map (·.1)=bs.map (·.1)/\VRs s.heap (bs.map (·.2)) (us.reverse.map (·.2)))
  (hloc:bs.all (λx=>scope.names.lookup x.1 == some .local)=true) (hcell:∀ x ∈ scope.names,x.2≠.cell)
  (h:∀ L c,hp L=none->L≠env.locals->EV (model PW W0) (A.deeper (Zeh qual scope cl L f c)) (λ_ _=>False) B (Zeh qual scope cl L f c) body (locOf bs) (hp.set env.locals (.ns m))
   λv hp'=>∃ hp₂:Hp,(∀ a o,(hp₂.set env.locals (.ns m)) a=some o->hp' a=some o/\a≠L)/\Q v hp₂)
  (hco:autoParam (scope.isCoroutine=false) rB) (hgen:autoParam (scope.isGenerator=false) rB) (hk:autoParam (scope.kind = .function) rB) :
  CL (model PW W0) A E B env (.ref f) m avs hp Q:=CD.cl λs vs r hv=>by
 obtain ⟨c,pm,ctv,oc,vs0,tq,hf,hfL,hc,hcL,hd,hq⟩:=F.ex;obtain ⟨us,hb,e1,e2⟩:=hbind s vs c pm ctv hv;have nm:us.map (·.1)=(bs.map (·.1)).reverse:=by rw[<-e1,List.map_reverse,List.reverse_reverse]
 refine kla_callFunE hroom (r.at hf hfL).1 rfl hco hgen rfl ⟨c,oc,vs0,tq,rfl,(r.at hc hcL).1,hd,hq⟩ ?_;rw[hb];refine wP (wpAny_newFunctionEnv hcell (λx hx=>?_) (λhZ hns hsb=>⟨(G.lim.keeps r.keep).fresh _ hsb,?_⟩) hk)
 .have:x.1 ∈ bs.map (·.1):=by rw[<-List.mem_reverse,<-nm];exact List.mem_map_of_mem hx
  obtain ⟨y,hy,e⟩:=List.mem_map.mp this;rw[<-e]
  simpa using List.all_eq_true.mp hloc y hy
 .have hkZ:∀ b o,s.heap.get? b=some o->hZ.get? b=some o:=λb o e=>hsb.extBut b o (Nat.ne_of_lt (Heap.lt_size e)) (Heap.get?_push_of_some _ e);have hne:s.heap.objs.size≠env.locals:=λe=>by have f:=r.fresh;rw[e,Hp.ss]at f;cases f
  have hfr:hp s.heap.objs.size=none:=by have f:=r.fresh;rw[Hp.sn _ _ hne]at f;exact f
  have le:ImmLe s.heap hZ:=ImmLe.keep hkZ;have rel:Rel B ((hp.set env.locals (.ns m)).set (Zeh qual scope cl s.heap.objs.size f c).locals (.ns (locOf bs))) { s with heap:=hZ,toks:=s.toks + us.length }:=by
   refine ⟨λb o e=>hkZ _ _ (r.keep b o e),λa o' e=>?_,r.os,r.bare,trivial⟩;by_cases ha:a=s.heap.objs.size
   .subst ha;rw[show (Zeh qual scope cl s.heap.objs.size f c).locals=s.heap.objs.size from rfl,Hp.ss]at e;cases e;exact ⟨r.nob (Nat.le_refl _),_,hns,Zgp e1 (e2.mono le)⟩
   .rw [show (Zeh qual scope cl s.heap.objs.size f c).locals=s.heap.objs.size from rfl,Hp.sn _ _ ha]at e;exact ⟨(r.objs a o' e).1,(r.objs a o' e).2.here le λo'' e=>hkZ _ _ e⟩
  refine kla_codeExpr (wpAny_mono (h _ c hfr hne _ rel) (λu sY x=>?_) λ_ _ x=>x.elim);obtain ⟨v,hp',r',le',hu,hp₂,hsub,q⟩:=x;refine mkV (av:=v) (r'.sub λa o e=>?_) (le.trans le') hu q;have:=hsub a o e;rw[show (Zeh qual scope cl s.heap.objs.size f c).locals=s.heap.objs.size from rfl,Hp.sn _ _ this.2];exact this.1
theorem Zmm {func e:Expr}{rest:List Expr} {pos}{f:Addr}{o:Obj}{fd:FuncData}{Q:QV} (hd:o.data = .func fd)
  (h:EV (model PW W0) A E B env func m hp λv hpY=>v = .ref f/\EVS (model PW W0) A E B env (e :: rest) m hpY λvs hp₂=>hp₂ f=some (.obj o)/\f≠env.locals/\CL (model PW W0) A E B env (.ref f) m vs hp₂ Q)
  (hc:autoParam (eval (.Call func (e :: rest) [] pos) env=(do callWith pos (<-eval func env) [] (backTo pos (starEach (e :: rest) env)) (backToKw pos (keywordEach [] env)))) rB)
  (he:autoParam (starEach (e :: rest) env=(false,eval e env) :: starEach rest env) rB) :
  EV (model PW W0) A E B env (.Call func (e :: rest) [] pos) m hp Q:=λs r=>by
 refine Call_ (h.use r λu sY v hpY rY leY hu yq=>?_) hc;obtain ⟨hf,q⟩:=yq;subst hf;simp only[VR]at hu;subst hu;refine callWith_def hd (Zcu (q pos sY rY) λvs s₂ avs hp₂ r₂ le₂ hv q=>?_) he;exact ⟨(r₂.at q.1 q.2.1).1,useV (q.2.2 s₂ vs r₂ hv) λv s₃ av hp₃ r₃ le₃ hv q=>mkV r₃ ((leY.trans le₂).trans le₃) hv q⟩
end
section
variable {K:Frag}
theorem VRs.reverse {h:Heap}:∀ {xs:List AV}{vs:List Value},VRs h xs vs->VRs h xs.reverse vs.reverse
 | [],vs,e=>by simp only[VRs]at e;subst e;simp[VRs]
 | x :: xs,vs,e=>by simp only[VRs]at e;obtain ⟨v,r,rfl,h1,h2⟩:=e;rw[List.reverse_cons,List.reverse_cons];exact VRs.append (VRs.reverse h2) (VRs.one h1)
noncomputable abbrev Zd2 (PW:Program) (W0:World) (A:Around) (E:ET) (B:Shared) (env:Env) (m:Loc) (st:Expr) (Q:QV):AV->Hp->Prop:=λo hpY=>EV (model PW W0) A E B env st m hpY λc hp₂=>∃ a xs,o = .ref a/\c = .int (-1)/\Lst B hp₂ env.locals a xs/\xs.length<=5000/\∀ b,hp₂ b=none->b≠env.locals->Q (.ref b) (hp₂.set b (.list xs.reverse))
theorem Zku {value st:Expr} {p pos}{Q:QV}
  (h:EV (model PW W0) A E B env value m hp (Zd2 PW W0 A E B env m st Q))
  (ht:∀ o r,letTemporaryGo value o r=pure ():=by intro _ _;rfl) :
  EV (model PW W0) A E B env (.Subscript value (.Slice none none (some st) p) pos) m hp Q:=λs r=>by
 refine wpAny_Subscript_Slice_step (T := "list") list_getitem_lookup (h.use r λu sY o hpY rY leY hu hY=>wpAny_Slice ?_) ht;rw[evalPart_none];refine wP (wP ?_);refine hY.use rY λvc s₂ c hp₂ r₂ le₂ hc h₂=>?_;refine hide λ_ Z=>?_;obtain ⟨a,xs,rfl,rfl,hls,hsz,q⟩:=h₂;simp only[VR]at hu;subst hu;simp only[VR]at hc;obtain ⟨t,rfl⟩:=hc;obtain ⟨vs,hlst,hvs⟩:=r₂.lst hls;apply Z;clear Z;have e:vs.size=xs.length:=by rw[<-Array.length_toList];exact hvs.length
 have hz:=sizeLine_eq;refine ⟨(hlst.push _).typeIs,wpAny_getItem_list_slice (hlst.push _) (Heap.IsSliceOf.new ..) .none .none (.int ..) (by decide) ?_ (by lia)⟩;have rj:=r₂.push { cls:=.type "slice",data:=.fields #[.none,.none,.int (-1) t] };have lej:ImmLe s₂.heap (s₂.heap.push { cls:=.type "slice",data:=.fields #[.none,.none,.int (-1) t] }):=ImmLe.keep λb o'' e=>Heap.get?_push_of_some _ e;rw[krv_pick]
 have n:=Rel.newAt rj { cls:=.type "list",data:=.seq vs.toList.reverse.toArray } (.list xs.reverse) ⟨_,0,IsL.new _ _,by
  have:=hvs.mono (lej.trans (ImmLe.keep λb o'' e=>Heap.get?_push_of_some { cls:=.type "list",data:=.seq vs.toList.reverse.toArray } e))
  exact this.reverse⟩
 exact mkV (av:=.ref _) n.1 ((leY.trans le₂).trans (lej.trans n.2.2.2)) VR_ref (q _ n.2.1 n.2.2.1)
end
section
variable {K:Frag}
end
section
variable {K:Frag}
theorem Zdb {a b:Addr}{xs ys:List AV}{Q:QV} (ha:Lst B hp env.locals a xs) (hb:Lst B hp env.locals b ys) (hsz:xs.length + ys.length<=5000)
  (h:∀ c,hp c=none->c≠env.locals->Q (.ref c) (hp.set c (.list (xs ++ ys)))):OP2 (model PW W0) A E B env (binaryOp .Add) m (.ref a) (.ref b) hp Q:=λs u v r hu hv=>by
 refine hide λ_ Z=>?_;simp only[VR]at hu hv;subst hu;subst hv;obtain ⟨vs,hl,hvs⟩:=r.lst ha;obtain ⟨us,hl',hus⟩:=r.lst hb;have e1:vs.size=xs.length:=by rw[<-Array.length_toList];exact hvs.length
 have e2:us.size=ys.length:=by rw[<-Array.length_toList];exact hus.length
 obtain ⟨⟨cls,dd,data,sl⟩,ho,hc,n,hd⟩:=id hl;obtain ⟨⟨cls2,dd2,data2,sl2⟩,ho2,hc2,n2,hd2⟩:=id hl';apply Z;clear Z;simp only at hc hd hc2 hd2;subst hc hd hc2 hd2;have hz:=sizeLine_eq;refine concat_meets ⟨_,ho,rfl⟩ ⟨_,ho2,rfl⟩ noFill_list_add seq_list_add PySem.F.slot_list_add PySem.F.entry_list_add (PySem.F.args_list_add_2 _ _) (list_addW a b vs us n n2 dd dd2 sl sl2 (by lia)) ⟨ho,ho2,?_⟩;have le:ImmLe s.heap (s.heap.push { cls:=.type "list",data:=.seq (vs ++ us) }):=ImmLe.keep λb o'' e=>Heap.get?_push_of_some _ e;have x:=r.newAt { cls:=.type "list",data:=.seq (vs ++ us) } (.list (xs ++ ys)) ⟨_,0,IsL.new _ _,by rw[Array.toList_append];exact (hvs.mono le).append (hus.mono le)⟩;exact mkV (av:=.ref _) x.1 x.2.2.2 VR_ref (h _ x.2.1 x.2.2.1)
end
section
variable {K:Frag}
end
section
variable {K:Frag}
end
/-! the table of a set of up to 61 ints: a free slot is always found -/
theorem Zl8 {xs:Array Nat}{j:Nat} (hr:∀ i k,i < k->k < xs.size->xs.getD i j < xs.getD k j):∀ (fuel lo hi:Nat),hi - lo<=fuel->lo<=hi->hi<=xs.size->(∀ i,i < lo->xs.getD i j < j)->(∀ i,hi<=i->i < xs.size->j<=xs.getD i j) ->
  SetTable.below.go xs j fuel lo hi<=xs.size/\(∀ i,i < SetTable.below.go xs j fuel lo hi->xs.getD i j < j)/\∀ i,SetTable.below.go xs j fuel lo hi<=i->i < xs.size->j<=xs.getD i j:=by
 intro r_
 induction r_ with
 | zero=>
  intro lo hi hf hl hh a b;have:lo=hi:=by (exact F20 0x986985004750780a 0x1100010101 rfl hf hl)
  subst this;exact ⟨hh,a,b⟩
 | succ fuel ih=>
  intro lo hi hf hl hh a b;unfold SetTable.below.go;by_cases h:lo < hi
  .rw [if_pos h];dsimp only;by_cases h2:xs.getD ((lo + hi) / 2) j < j
   .rw [if_pos h2];refine ih _ hi (by (exact F30 0xa856a0750ab0a670a1a98022a 0x1000010042024001 rfl hf)) (by (exact F20 0x96705984087022a 0x2110 rfl h)) hh (λi hi'=>?_) b;rcases Nat.lt_or_ge i ((lo + hi) / 2) with h3 | h3
    .exact Nat.lt_trans (hr i _ h3 (by (exact F30 0x9748a40985079022a 0x21210 rfl hh h))) h2
    .have:i=(lo + hi) / 2:=by (exact F20 0x8767850680740 0x101110 rfl hi' h3)
     rw[this];exact h2
   .rw [if_neg h2];refine ih lo _ (by (exact F30 0xa85cb406a0750ab0a971a98022a 0x100000100212022010 rfl hf h)) (by (exact F20 0x785984087022a 0x4201 rfl h)) (by (exact F30 0x9758a40985079022a 0x21210 rfl hh h)) a (λi hi' hs=>?_);rcases Nat.lt_or_ge ((lo + hi) / 2) i with h3 | h3
    .have:=hr _ i h3 hs;(exact F30 0x985974087420 0x111 rfl h2 this)
    .have:i=(lo + hi) / 2:=by (exact Nat.le_antisymm ‹_› ‹_›)
     rw[this];(exact Nat.le_of_not_lt ‹_›)
  .rw [if_neg h];have:lo=hi:=by (exact F20 0x876874208750 0x101110 rfl hl h)
   subst this;exact ⟨hh,a,b⟩
noncomputable abbrev Rise (xs:Array Nat):Prop:=xs.toList.Pairwise (· < ·)
theorem Rise.at_ {xs:Array Nat} (h:Rise xs) (i k:Nat) (hik:i < k) (hk:k < xs.size) (d:Nat):xs.getD i d < xs.getD k d:=by
 have:=List.pairwise_iff_getElem.mp h i k (by simpa using Nat.lt_trans hik hk) (by simpa using hk) hik;simp only[Array.getD,hk,Nat.lt_trans hik hk,dif_pos]
 simpa using this
theorem Zck {xs:Array Nat} (h:Rise xs) (j:Nat):SetTable.below xs j<=xs.size/\(∀ i,i < SetTable.below xs j->xs.getD i j < j)/\∀ i,SetTable.below xs j<=i->i < xs.size->j<=xs.getD i j:=
 Zl8 (λi k a b=>h.at_ i k a b j) xs.size 0 xs.size (by (exact Nat.sub_le ..)) (Nat.zero_le _) (Nat.le_refl _) (λi hi=>absurd hi (Nat.not_lt_zero _)) λi h1 h2=>absurd h2 (Nat.not_lt.mpr h1)
theorem Zc5 {xs:Array Nat}{i d x:Nat} (h:xs[i]?=some x):xs.getD i d=x:=by simp[Array.getD_eq_getD_getElem?,h]
theorem Zhn {xs:Array Nat} (h:Rise xs) {i x:Nat} (hx:xs[i]?=some x):SetTable.below xs x=i/\SetTable.below xs (x + 1)=i + 1:=by
 have hi:i < xs.size:=by
  rcases Nat.lt_or_ge i xs.size with h' | h'
  .exact h'
  .rw [Array.getElem?_eq_none h']at hx;cases hx
 refine ⟨?_,?_⟩
 .obtain ⟨a,b,c⟩:=Zck h x;rcases Nat.lt_trichotomy (SetTable.below xs x) i with h1 | h1 | h1
  .have y:=c _ (Nat.le_refl _) (Nat.lt_trans h1 hi);have z:=h.at_ _ _ h1 hi x;rw[Zc5 hx]at z;(exact F40 0xa9678408750 0x11011 rfl y z)
  .exact h1
  .have:=b i h1;rw[Zc5 hx]at this;(exact absurd ‹_› (Nat.lt_irrefl _))
 .obtain ⟨a,b,c⟩:=Zck h (x + 1);rcases Nat.lt_trichotomy (SetTable.below xs (x + 1)) (i + 1) with h1 | h1 | h1
  .have:=c i (by (exact Nat.le_of_lt_succ ‹_›)) hi;rw[Zc5 hx]at this;(exact absurd ‹_› (Nat.lt_irrefl _))
  .exact h1
  .have:=b (i + 1) h1;have z:=h.at_ i (i + 1) (by (exact Nat.lt_succ_self _)) (by (exact Nat.lt_of_lt_of_le ‹_› ‹_›)) (x + 1);rw[Zc5 hx]at z;(exact F40 0x6a0967840680740 0x11011 rfl this z)
theorem Zia {xs:Array Nat} (h:Rise xs):SetTable.below xs 0=0:=by
 obtain ⟨a,b,c⟩:=Zck h 0;rcases Nat.eq_zero_or_pos (SetTable.below xs 0) with h1 | h1
 .exact h1
 .have:=b 0 h1;lia
theorem Zgk {xs:Array Nat} (h:Rise xs) {j:Nat} (hj:j ∉ xs.toList):Rise (SetTable.insertAt xs (SetTable.below xs j) j):=by
 obtain ⟨a,b,c⟩:=Zck h j;show List.Pairwise _ _;rw[SetTable.toList_insertAt];generalize SetTable.below xs j=p at a b c;have e:xs.toList=xs.toList.take p ++ xs.toList.drop p:=(List.take_append_drop p xs.toList).symm;have hp:=h;unfold Rise at hp;rw[e,List.pairwise_append]at hp;rw[List.pairwise_append,List.pairwise_cons];have lo:∀ y ∈ xs.toList.take p,y < j:=λy hy=>by
  obtain ⟨i,hi,rfl⟩:=List.mem_iff_getElem.mp hy;rw[List.length_take]at hi;have:=b i (by lia);rw[List.getElem_take]
  simpa [Array.getD,show i < xs.size from by simp at hi;lia] using this
 have hi':∀ y ∈ xs.toList.drop p,j < y:=λy hy=>by
  obtain ⟨i,hi,rfl⟩:=List.mem_iff_getElem.mp hy;rw[List.length_drop]at hi;have h1:p + i < xs.size:=by simp at hi;(exact F30 0xa89047840891a 0x1011110 rfl hi)
  have:=c (p + i) (by (exact Nat.le_add_right _ _)) h1;rw[List.getElem_drop];have h2:j<=xs.toList[p + i]:=by simpa [Array.getD,h1] using this
  rcases Nat.lt_or_ge j (xs.toList[p + i]) with h3 | h3
  .exact h3
  .exact absurd (List.getElem_mem (l:=xs.toList) (n:=p + i) (by simpa using h1)) (by rw[show xs.toList[p + i]=j from by (exact Nat.le_antisymm ‹_› ‹_›)];exact hj)
 exact ⟨hp.1,⟨hi',hp.2.1⟩,λy hy z hz=>by
  rcases List.mem_cons.mp hz with rfl | hz
  .exact lo y hy
  .exact Nat.lt_trans (lo y hy) (hi' z hz)⟩
theorem Zbf:∀ {l l':List Nat},l.Nodup->(∀ x ∈ l,x ∈ l')->l.length<=l'.length
 | [],_,_,_=>Nat.zero_le _
 | a :: r,l',hn,hs=>by have ha:=hs a (.head _);have ih:=Zbf (l:=r) (l':=l'.erase a) (List.nodup_cons.mp hn).2 λx hx=>(List.mem_erase_of_ne (λe:x=a=>(List.nodup_cons.mp hn).1 (e ▸ hx))).mpr (hs x (.tail _ hx));rw[List.length_erase_of_mem ha]at ih;have:=List.length_pos_of_mem ha;simp only[List.length_cons];(exact F20 0x96805904407850681a 0x1110110110 rfl ih this)
noncomputable def Zbo (mask:Nat):Nat->Nat->Nat->Nat × Nat
 | 0,i,q=>(i,q)
 | k + 1,i,q=>Zbo mask k (SetTable.leap mask i q).1 (SetTable.leap mask i q).2
theorem Zeg (mask:Nat):∀ (a b i q:Nat),Zbo mask (a + b) i q=Zbo mask b (Zbo mask a i q).1 (Zbo mask a i q).2
 | 0,b,i,q=>by rw[Nat.zero_add];rfl
 | a + 1,b,i,q=>by rw[Nat.succ_add];exact Zeg mask a b _ _
theorem lineAt_q (mask:Nat):∀ (k i q:Nat),(Zbo mask k i q).2=q / 32 ^ k
 | 0,i,q=>by simp[Zbo]
 | k + 1,i,q=>by rw[show Zbo mask (k + 1) i q=Zbo mask k (SetTable.leap mask i q).1 (SetTable.leap mask i q).2 from rfl,lineAt_q mask k];show q / 32 / 32 ^ k=_;rw[Nat.div_div_eq_div_mul,Nat.pow_succ,Nat.mul_comm]
noncomputable def stp (mask i:Nat):Nat:=(i * 5 + 1) % (mask + 1)
noncomputable def orb (mask:Nat):Nat->Nat->Nat
 | 0,i=>i
 | k + 1,i=>orb mask k (stp mask i)
theorem Zhf (mask:Nat):∀ (k i:Nat),Zbo mask k i 0=(orb mask k i,0)
 | 0,i=>rfl
 | k + 1,i=>by have:=Zhf mask k (stp mask i);show Zbo mask k (SetTable.leap mask i 0).1 (SetTable.leap mask i 0).2=_;rw[show SetTable.leap mask i 0=(stp mask i,0) from by simp[SetTable.leap,stp]];exact this
theorem Zfu (mask:Nat):∀ (k i q:Nat),i<=mask->(Zbo mask k i q).1<=mask
 | 0,i,q,h=>h
 | k + 1,i,q,h=>Zfu mask k _ _ (by show (i * 5 + 1 + q / 32) % (mask + 1)<=mask;have:=Nat.mod_lt (i * 5 + 1 + q / 32) (show 0 < mask + 1 from Nat.succ_pos mask);(exact Nat.le_of_lt_succ ‹_›))
theorem orb_add (mask:Nat):∀ (a b i:Nat),orb mask (a + b) i=orb mask b (orb mask a i)
 | 0,b,i=>by rw[Nat.zero_add];rfl
 | a + 1,b,i=>by rw[Nat.succ_add];exact orb_add mask a b _
noncomputable def Zm7 (mask:Nat):Bool:=(orb mask (mask + 1) 0 == 0) && (List.range (mask + 1)).all λj=>(List.range (mask + 1)).any λk=>orb mask k 0 == j
noncomputable abbrev Mk (mask:Nat):Prop:=mask=7\/mask=31\/mask=127
theorem Zj6 {mask:Nat} (h:Mk mask):Zm7 mask=true:=by rcases h with rfl | rfl | rfl <;> decide +kernel
theorem Znn {mask i j:Nat} (h:Mk mask) (hi:i<=mask) (hj:j<=mask):∃ k,k<=mask + 1/\orb mask k i=j:=by
 have c:=Zj6 h;unfold Zm7 at c;rw[Bool.and_eq_true,List.all_eq_true]at c;have c0:orb mask (mask + 1) 0=0:=by simpa using c.1
 have get:∀ x,x<=mask->∃ k,k<=mask/\orb mask k 0=x:=λx hx=>by have:=c.2 x (List.mem_range.mpr (by (exact F20 0x680748750 0x11 rfl hx)));rw[List.any_eq_true]at this;obtain ⟨k,hk,e⟩:=this;exact ⟨k,by have:=List.mem_range.mp hk;(exact Nat.le_of_lt_succ ‹_›),by simpa using e⟩
 obtain ⟨a,ha,ea⟩:=get i hi;obtain ⟨b,hb,eb⟩:=get j hj;rcases Nat.le_total a b with h1 | h1
 .refine ⟨b - a,by (exact F30 0x690759850970a 0x1110 rfl hb),?_⟩;rw[<-ea,<-orb_add,show a + (b - a)=b from by (exact F20 0x978069850781a 0x1101101010101001 rfl h1),eb]
 .refine ⟨(mask + 1 - a) + b,by (exact F30 0x690a7058a50985076801a 0x11011010 rfl ha h1),?_⟩;rw[<-ea,<-orb_add,show a + (mask + 1 - a + b)=(mask + 1) + b from by (exact F30 0xa6900a70806985076801a 0x110011010101001 rfl ha),orb_add,c0,eb]
theorem Zft {mask i q j:Nat} (h:Mk mask) (hi:i<=mask) (hq:q < 2 ^ 64) (hj:j<=mask):∃ k,k < mask + 15/\(Zbo mask k i q).1=j:=by obtain ⟨k,hk,e⟩:=Znn h (Zfu mask 13 i q hi) hj;refine ⟨13 + k,by (exact F20 0xf4807d404680750 0x11 rfl hk),?_⟩;rw[Zeg,lineAt_q,Nat.div_eq_of_lt (Nat.lt_of_lt_of_le hq (by decide)),Zhf];exact e
structure TOk (t:SetTable) (n:Nat):Prop where
 plain:t.plain=true
 dum:t.dummies = #[]
 sz:t.place.size=n
 rise:Rise t.place
 le:∀ x ∈ t.place.toList,x<=t.mask
 mk7:Mk t.mask
theorem Zjp (j:Nat):SetTable.has #[] j=false:=by simp[SetTable.has]
theorem TOk.live {t:SetTable}{n j:Nat} (T:TOk t n) (h:j ∈ t.place.toList):∃ i,t.slot j = .live i:=by
 obtain ⟨i,hi,e⟩:=List.mem_iff_getElem.mp h;have hx:t.place[i]?=some j:=by rw[<-Array.getElem?_toList,List.getElem?_eq_getElem hi,e]
 refine ⟨i,?_⟩;unfold SetTable.slot;dsimp only;rw[(Zhn T.rise hx).1,hx];simp
theorem TOk.empty {t:SetTable}{n j:Nat} (T:TOk t n) (h:j ∉ t.place.toList):t.slot j = .empty:=by
 unfold SetTable.slot;have:(t.place[SetTable.below t.place j]? == some j)=false:=by rw[beq_eq_false_iff_ne];intro e;exact h (by rw[Array.mem_toList_iff];exact Array.mem_of_getElem? e)
 dsimp only;rw[this,T.dum,Zjp];rfl
noncomputable def Zfh (mask i q:Nat):SetTable.Probe:={ j:=i,more:=SetTable.runEnd mask i - i,i,perturb:=q,dummy:=none }
noncomputable abbrev Found (t:SetTable) (o:Option SetTable.Met):Prop:=∃ j,o=some (.empty j none)/\j ∉ t.place.toList/\j<=t.mask
theorem Zny {t:SetTable}{n:Nat} (T:TOk t n) {h:Int}:∀ (r fuel:Nat) (p:SetTable.Probe),p.more=r->p.dummy=none->p.j + r<=t.mask ->
  Found t (SetTable.probe.go t (λ_=>h + 1) h (fuel + r + 1) p)\/(p.j ∈ t.place.toList/\SetTable.probe.go t (λ_=>h + 1) h (fuel + r + 1) p=SetTable.probe.go t (λ_=>h + 1) h fuel (Zfh t.mask (SetTable.leap t.mask p.i p.perturb).1 (SetTable.leap t.mask p.i p.perturb).2)):=
 λr=>Nat.strongRecOn r λr go fuel p hm hd hb=>by
  by_cases ho:p.j ∈ t.place.toList
  .obtain ⟨i,hi⟩:=T.live ho;have hh:(h + 1 == h)=false:=by rw[beq_eq_false_iff_ne];lia
   have st:SetTable.probe.go t (λ_=>h + 1) h (fuel + r + 1) p=SetTable.probe.go t (λ_=>h + 1) h (fuel + r) (t.advance p):=by rw[SetTable.probe.go,hi];dsimp only;rw[hh];rfl
   rw[st];cases r with
   | zero=>
    refine .inr ⟨ho,?_⟩;congr 1;unfold SetTable.advance Zfh;rw[hm,hd];rfl
   | succ r=>
    have ea:t.advance p={ p with j:=p.j + 1,more:=r }:=by unfold SetTable.advance;rw[hm,if_pos (Nat.succ_pos r)];rfl
    rw[ea];rcases go r (Nat.lt_succ_self r) fuel { p with j:=p.j + 1,more:=r } rfl hd (by show p.j + 1 + r<=t.mask;(exact F30 0x986700596807050 0x11 rfl hb)) with x | x
    .exact .inl x
    .exact .inr ⟨ho,x.2⟩
  .refine .inl ⟨p.j,?_,ho,by (exact F30 0x975987050 0x11 rfl hb)⟩;rw[SetTable.probe.go,T.empty ho];dsimp only;rw[hd]
theorem Zi3 {mask i:Nat} (h:i<=mask):i + (SetTable.runEnd mask i - i)<=mask/\SetTable.runEnd mask i - i<=9:=by unfold SetTable.runEnd;split <;> lia
theorem Zjf {mask i q:Nat}:(SetTable.leap mask i q).1<=mask:=by show (i * 5 + 1 + q / 32) % (mask + 1)<=mask;have:=Nat.mod_lt (i * 5 + 1 + q / 32) (show 0 < mask + 1 from Nat.succ_pos mask);(exact Nat.le_of_lt_succ ‹_›)
theorem Zly {t:SetTable}{n:Nat} (T:TOk t n) {h:Int}:∀ (k fuel i q:Nat),10 * k<=fuel->i<=t.mask ->
  Found t (SetTable.probe.go t (λ_=>h + 1) h fuel (Zfh t.mask i q))\/∀ m,m < k->(Zbo t.mask m i q).1 ∈ t.place.toList:=by
 intro r_
 induction r_ with
 | zero=>
  intro fuel i q _ _;exact .inr λm hm=>absurd hm (Nat.not_lt_zero m)
 | succ k ih=>
  intro fuel i q hf hi;have hr:=Zi3 hi;have ef:fuel=(fuel - (SetTable.runEnd t.mask i - i) - 1) + (SetTable.runEnd t.mask i - i) + 1:=by (exact F30 0x6b700a694b50a690a250671a981a 0x10000100110010011001000010011001001111010010001011001010 rfl hf hr.2)
  rw[ef];rcases Zny T (h:=h) (SetTable.runEnd t.mask i - i) (fuel - (SetTable.runEnd t.mask i - i) - 1) (Zfh t.mask i q) rfl rfl hr.1 with x | ⟨x1,x2⟩
  .exact .inl x
  .rw [x2];rcases ih (fuel - (SetTable.runEnd t.mask i - i) - 1) _ _ (by (exact F40 0xa7a2569a00860949508670a250 0x10111 rfl hf hr.2 ef)) (Zjf (i:=i) (q:=q)) with y | y
   .exact .inl y
   .refine .inr λm hm=>?_;cases m with
    | zero=>exact x1
    | succ m=>exact y m (by (exact Nat.le_of_lt_succ ‹_›))
theorem Zkc (h:Int):SetTable.bits h < 2 ^ 64:=by
 unfold SetTable.bits;have h1:=Int.emod_nonneg h (show (2 ^ 64:Int)≠0 by decide);have h2:=Int.emod_lt_of_pos h (show (0:Int) < 2 ^ 64 by decide)
 (exact Zgh ‹_› ‹_›)
theorem TOk.room {t:SetTable}{n:Nat} (T:TOk t n) (hn:n<=t.mask):∃ j,j<=t.mask/\j ∉ t.place.toList:=by
 refine Classical.byContradiction λhc=>?_;have:=Zbf (l:=List.range (t.mask + 1)) (l':=t.place.toList) List.nodup_range λx hx=>Classical.byContradiction λh=>hc ⟨x,by have:=List.mem_range.mp hx;(exact Nat.le_of_lt_succ ‹_›),h⟩;rw[List.length_range,Array.length_toList,T.sz]at this
 (exact F20 0x37680508750 0x11 rfl hn this)
theorem Zgt {t:SetTable}{n:Nat} (T:TOk t n) (hn:n<=t.mask) (h:Int):∃ j,t.freeSlot h=some (j,false)/\j ∉ t.place.toList/\j<=t.mask:=by
 obtain ⟨j0,a,b⟩:=T.room hn;have hi:SetTable.bits h % (t.mask + 1)<=t.mask:=by have:=Nat.mod_lt (SetTable.bits h) (show 0 < t.mask + 1 from Nat.succ_pos _);(exact Nat.le_of_lt_succ ‹_›)
 rcases Zly T (h:=h) (t.mask + 15) (10 * SetTable.turns t.mask) (SetTable.bits h % (t.mask + 1)) (SetTable.bits h) (Nat.le_refl _) hi with ⟨j,e,x⟩ | x
 .refine ⟨j,?_,x⟩;unfold SetTable.freeSlot SetTable.probe;rw[show t.probeStart h=Zfh t.mask (SetTable.bits h % (t.mask + 1)) (SetTable.bits h) from rfl,e];rfl
 .obtain ⟨k,hk,e⟩:=Zft T.mk7 hi (Zkc h) a;exact absurd (x k hk) (by rw[e];exact b)
theorem Zbj {α:Type} (xs:Array α) (p:Nat) (x : α):(SetTable.insertAt xs p x).size=xs.size + 1:=by rw[<-Array.length_toList,(SetTable.insertAt_perm xs p x).length_eq];simp
theorem Zjg {t:SetTable}{n:Nat}{es:Array (Int × Value)} (T:TOk t n) (hes:es.size=n) (hn:n + 1<=t.mask) (h:Int) (x:Value) :
  ∃ p t',layNew t es h x=(SetTable.insertAt es p (h,x),t',false,false)/\TOk t' (n + 1)/\t'.mask=t.mask/\t'.led=t.led:=by
 refine hide λ_ Z=>?_;obtain ⟨j,e,hj,hjm⟩:=Zgt T (by (exact Nat.le_of_lt ‹_›)) h;apply Z;clear Z;have T':TOk { t with place:=SetTable.insertAt t.place (SetTable.below t.place j) j } (n + 1):=
  ⟨T.plain,T.dum,by show (SetTable.insertAt _ _ _).size=_;rw[Zbj,T.sz],Zgk T.rise hj,λy hy=>by
   have hy':=(SetTable.insertAt_perm t.place (SetTable.below t.place j) j).mem_iff.mp hy;rw[Array.toList_push]at hy';rcases List.mem_append.mp hy' with h1 | h1
   .exact T.le y h1
   .rw [List.mem_singleton]at h1;rw[h1];exact hjm,T.mk7⟩
 have ep:t.put j=({ t with place:=SetTable.insertAt t.place (SetTable.below t.place j) j },SetTable.below t.place j):=by unfold SetTable.put;dsimp only;rw[T.dum,Zjp];rfl
 have hf:SetTable.fits { t with place:=SetTable.insertAt t.place (SetTable.below t.place j) j } (n + 1)=true:=by unfold SetTable.fits SetTable.fill;rw[Bool.and_eq_true];refine ⟨by rw[T'.sz];simp,?_⟩;show decide ((SetTable.insertAt t.place (SetTable.below t.place j) j).size + t.dummies.size<=t.mask)=true;rw[Zbj,T.sz,T.dum];exact decide_eq_true hn
 refine ⟨SetTable.below t.place j,_,?_,T',rfl,rfl⟩;unfold layNew;rw[e];dsimp only;rw[ep];dsimp only;rw[Zbj,hes];unfold SetTable.orStandIn;rw[hf];rfl
/-! relaid -/
noncomputable def Za7 (mask:Nat) (owner:Array (Option Nat)):List (Nat × Nat):=(List.range (mask + 1)).filterMap λj=>(owner.getD j none).map (j,·)
structure OOk (mask:Nat) (owner:Array (Option Nat)) (k:Nat):Prop where
 sz:owner.size=mask + 1
 lv:((Za7 mask owner).map (·.2)).Perm (List.range k)
theorem Zlq {mask j:Nat}{owner:Array (Option Nat)} (hj:j<=mask) (h:owner.getD j none≠none):j ∈ (Za7 mask owner).map (·.1):=by
 cases e:owner.getD j none with
 | none=>exact absurd e h
 | some k=>exact List.mem_map.mpr ⟨(j,k),List.mem_filterMap.mpr ⟨j,List.mem_range.mpr (by (exact F20 0x680748750 0x11 rfl hj)),by rw[e];rfl⟩,rfl⟩
theorem OOk.room {mask k:Nat}{owner:Array (Option Nat)} (O:OOk mask owner k) (hk:k<=mask):∃ j,j<=mask/\owner.getD j none=none:=by
 refine Classical.byContradiction λhc=>?_;have:=Zbf (l:=List.range (mask + 1)) (l':=(Za7 mask owner).map (·.1)) List.nodup_range λx hx=>Zlq (by have:=List.mem_range.mp hx;(exact Nat.le_of_lt_succ ‹_›)) λe=>hc ⟨x,by have:=List.mem_range.mp hx;(exact Nat.le_of_lt_succ ‹_›),e⟩;have l:=O.lv.length_eq;rw[List.length_map]at this l;rw[List.length_range]at this l
 (exact F30 0x379609680508750 0x111 rfl hk this l)
theorem Zh6 {mask k:Nat}{owner:Array (Option Nat)} (O:OOk mask owner k):∀ (fuel i q:Nat),i<=mask ->
  (∃ j,SetTable.layClean.free mask owner fuel i q=some j/\j<=mask/\owner.getD j none=none)\/∀ m,m < fuel->owner.getD (Zbo mask m i q).1 none≠none:=by
 intro r_
 induction r_ with
 | zero=>
  intro i q _;exact .inr λm hm=>absurd hm (Nat.not_lt_zero m)
 | succ fuel ih=>
  intro i q hi;rw[SetTable.layClean.free];cases e:(List.range (SetTable.runEnd mask i + 1 - i)).find? λk=>(owner.getD (i + k) (some 0)).isNone with
  | some k'=>
   refine .inl ⟨i + k',rfl,?_⟩;have h1:=List.find?_some e;have h2:i + k' < owner.size:=by
    rcases Nat.lt_or_ge (i + k') owner.size with h | h
    .exact h
    .simp [Array.getD,Nat.not_lt.mpr h]at h1
   have h3:=O.sz;refine ⟨by (exact F40 0xa87056a0960987040 0x1011 rfl h2 h3),?_⟩
   simpa [Array.getD,h2] using h1
  | none=>
   have h0:=List.find?_eq_none.mp e 0 (List.mem_range.mpr (by unfold SetTable.runEnd;split <;> (first | exact F10 0x704476947000a 0x101 rfl | exact F10 0x704476700a 0x101 rfl)));have hs:=O.sz;have h1:owner.getD i none≠none:=by
    simpa [Array.getD,show i < owner.size from by (exact F30 0x9746809608750 0x1101 rfl hi hs)] using h0
   rcases ih _ _ (Zjf (mask:=mask) (i:=i) (q:=q)) with x | x
   .exact .inl x
   .refine .inr λm hm=>?_;cases m with
    | zero=>exact h1
    | succ m=>exact x m (by (exact Nat.le_of_lt_succ ‹_›))
theorem Zn1 {mask k:Nat}{owner:Array (Option Nat)} (O:OOk mask owner k) (hm:Mk mask) (hk:k<=mask) (h:Int):∃ j,SetTable.layClean.free mask owner (SetTable.turns mask) (SetTable.bits h % (mask + 1)) (SetTable.bits h)=some j/\j<=mask/\owner.getD j none=none:=by
 refine hide λ_ Z=>?_;have hi:SetTable.bits h % (mask + 1)<=mask:=by have:=Nat.mod_lt (SetTable.bits h) (show 0 < mask + 1 from Nat.succ_pos _);(exact Nat.le_of_lt_succ ‹_›)
 obtain ⟨j0,a,b⟩:=O.room hk;apply Z;clear Z;rcases Zh6 O (SetTable.turns mask) _ (SetTable.bits h) hi with x | x
 .exact x
 .refine hide λ_ Z=>?_;obtain ⟨k,hk,e⟩:=Zft hm hi (Zkc h) a;apply Z;clear Z;exact absurd b (by rw[<-e];exact x k hk)
theorem Zca {α β:Type}{f g : α->Option β}:∀ {l:List α},(∀ x ∈ l,f x=g x)->l.filterMap f=l.filterMap g
 | [],_=>rfl
 | a :: l,h=>by rw[List.filterMap_cons,List.filterMap_cons,h a (.head _),Zca λx hx=>h x (.tail _ hx)]
theorem OOk.step {mask k j:Nat}{owner:Array (Option Nat)} (O:OOk mask owner k) (hj:j<=mask) (e:owner.getD j none=none):OOk mask (owner.setIfInBounds j (some k)) (k + 1):=by
 have hs:=O.sz;refine ⟨by simpa using hs,?_⟩;have hmem:j ∈ List.range (mask + 1):=List.mem_range.mpr (by lia);have hp:=List.perm_cons_erase hmem;have hne:∀ x ∈ (List.range (mask + 1)).erase j,x≠j:=λx hx h=>by subst h;exact (List.nodup_cons.mp (hp.nodup_iff.mp List.nodup_range)).1 hx
 have g1:∀ x,x≠j->(owner.setIfInBounds j (some k)).getD x none=owner.getD x none:=λx hx=>by simp[Array.getD_eq_getD_getElem?,Array.getElem?_setIfInBounds_ne (Ne.symm hx)]
 have g2:(owner.setIfInBounds j (some k)).getD j none=some k:=by simp[Array.getD_eq_getD_getElem?,Array.getElem?_setIfInBounds_self,show j < owner.size from by (exact F30 0x9746809608750 0x1101 rfl hj hs)]
 have e1:(Za7 mask (owner.setIfInBounds j (some k))).Perm ((j,k) :: ((List.range (mask + 1)).erase j).filterMap λj=>(owner.getD j none).map (j,·)):=by refine (hp.filterMap _).trans ?_;rw[List.filterMap_cons_some (b:=(j,k)) (by rw[g2];rfl)];refine .cons _ (.of_eq (Zca λx hx=>by rw[g1 x (hne x hx)]))
 have e2:(Za7 mask owner).Perm (((List.range (mask + 1)).erase j).filterMap λj=>(owner.getD j none).map (j,·)):=by refine (hp.filterMap _).trans ?_;rw[List.filterMap_cons_none (by rw[e];rfl)]
 have e3:=(e2.map (·.2)).symm.trans O.lv;refine (e1.map (·.2)).trans ?_;rw[List.map_cons,show List.range (k + 1)=List.range k ++ [k] from List.range_succ];exact (List.Perm.cons k e3).trans (List.perm_append_singleton k _).symm
theorem Zgq {mask:Nat} (hm:Mk mask):∀ (hs:List Int) (owner:Array (Option Nat)) (k:Nat),OOk mask owner k->k + hs.length<=mask ->
  ∃ owner',(hs.foldl (λ(acc:Option (Array (Option Nat) × Nat)) h=>do
   let (owner,k) <-acc;let j <-SetTable.layClean.free mask owner (SetTable.turns mask) (SetTable.bits h % (mask + 1)) (SetTable.bits h)
   pure (owner.setIfInBounds j (some k),k + 1)) (some (owner,k)))=some (owner',k + hs.length)/\OOk mask owner' (k + hs.length):=by
 intro r_
 induction r_ with
 | nil=>
  intro owner k O _;exact ⟨owner,rfl,O⟩
 | cons h hs ih=>
  intro owner k O hk;refine hide λ_ Z=>?_;simp only[List.length_cons]at hk;obtain ⟨j,e,hj,hn⟩:=Zn1 O hm (by (exact F30 0x97596807050 0x11 rfl hk)) h;obtain ⟨owner',e',O'⟩:=ih _ (k + 1) (O.step hj hn) (by (exact F30 0x986700596807050 0x11 rfl hk));apply Z;clear Z;refine ⟨owner',?_,?_⟩
  .rw [List.foldl_cons]
   have:(do
    let (owner,k) <-some (owner,k);let j <-SetTable.layClean.free mask owner (SetTable.turns mask) (SetTable.bits h % (mask + 1)) (SetTable.bits h)
    pure (owner.setIfInBounds j (some k),k + 1):Option (Array (Option Nat) × Nat))=some (owner.setIfInBounds j (some k),k + 1):=by
    show (SetTable.layClean.free mask owner _ _ _).bind _=_;rw[e];rfl
   rw[this,e',List.length_cons,Nat.add_right_comm,Nat.add_assoc]
  .rw [List.length_cons,show k + (hs.length + 1)=k + 1 + hs.length from by (exact F20 0x86700680706 0x11 rfl)];exact O'
theorem Zgm {t:SetTable}{n wanted:Nat}{es:Array (Int × Value)} (T:TOk t n) (hes:es.size=n) (hm:Mk (SetTable.sizeAbove wanted - 1)) (hn:n<=SetTable.sizeAbove wanted - 1) :
  ∃ es' t',relayAll t es wanted=(es',t',false)/\TOk t' n/\t'.mask=SetTable.sizeAbove wanted - 1/\t'.led=t.led:=by
 generalize hmask:SetTable.sizeAbove wanted - 1=mask at *;have O0:OOk mask (Array.replicate (mask + 1) none) 0:=by
  refine ⟨by simp,?_⟩;have:Za7 mask (Array.replicate (mask + 1) none)=[]:=by unfold Za7;rw[List.filterMap_eq_nil_iff];intro j hj;have:=List.mem_range.mp hj;simp[Array.getD,this]
  rw[this];exact .refl _
 obtain ⟨owner,e,O⟩:=Zgq hm (es.map (·.1)).toList _ 0 O0 (by simp;(exact F30 0x97598508760 0x1101 rfl hes hn));have hl : 0 + (es.map (·.1)).toList.length=n:=by simp[hes]
 rw[hl]at e O;have ec:SetTable.layClean mask (es.map (·.1))=some owner:=by unfold SetTable.layClean;rw[<-Array.foldl_toList];have:=congrArg (Option.map (·.1)) e;exact this
 have er:t.relaid (es.map (·.1)) wanted=some ({ mask,place:=((Za7 mask owner).map (·.1)).toArray,dummies:=#[],finger:=t.finger,led:=t.led,moves:=t.movedTo mask,plain:=t.plain },((Za7 mask owner).map (·.2)).toArray):=by unfold SetTable.relaid SetTable.laid;rw[hmask,ec];rfl
 have hlen:(Za7 mask owner).length=n:=by have:=O.lv.length_eq;simpa using this
 have T':TOk { mask,place:=((Za7 mask owner).map (·.1)).toArray,dummies:=#[],finger:=t.finger,led:=t.led,moves:=t.movedTo mask,plain:=t.plain } n:=by
  have sub:∀ (l:List Nat),l.Pairwise (· < ·)->((l.filterMap λj=>(owner.getD j none).map (j,·)).map (·.1)).Pairwise (· < ·):=λl hl=>by
   rw[List.map_filterMap];refine List.Pairwise.filterMap _ (λa b hab a' ha b' hb=>?_) hl;cases h1:owner.getD a none with
   | none=>rw[h1]at ha;cases ha
   | some x=>cases h2:owner.getD b none with
    | none=>rw[h2]at hb;cases hb
    | some y=>rw[h1]at ha;rw[h2]at hb;cases ha;cases hb;exact hab
  refine ⟨T.plain,rfl,by simp[hlen],?_,λx hx=>?_,hm⟩
  .show List.Pairwise _ (((Za7 mask owner).map (·.1)).toArray).toList;exact sub _ List.pairwise_lt_range
  .obtain ⟨⟨a,b⟩,h1,rfl⟩:=List.mem_map.mp (show x ∈ (Za7 mask owner).map (·.1) from hx);obtain ⟨j,h2,h3⟩:=List.mem_filterMap.mp h1;cases h4:owner.getD j none with
   | none=>rw[h4]at h3;cases h3
   | some y=>rw[h4]at h3;cases h3;have:=List.mem_range.mp h2;show a<=mask;(exact Nat.le_of_lt_succ ‹_›)
 refine ⟨((Za7 mask owner).map (·.2)).toArray.filterMap (es[·]?),_,?_,T',rfl,rfl⟩;have pz:=relayAll_perm t es wanted;unfold relayAll at pz ⊢;rw[er]at pz ⊢;dsimp only at pz ⊢;have hc:coversAll ((Za7 mask owner).map (·.2)).toArray es.size=true:=by unfold coversAll;rw[hes];exact List.isPerm_iff.mpr O.lv
 rw[hc]at pz ⊢;rw[Bool.true_and]at pz ⊢;have hsz:(((Za7 mask owner).map (·.2)).toArray.filterMap (es[·]?)).size=n:=by rw[<-Array.length_toList,Array.toList_filterMap];have:=(O.lv.filterMap (es[·]?)).length_eq;rw[show (List.range n)=List.range es.size from by rw[hes],filterMap_getElem?_range]at this;rw[this,Array.length_toList,hes]
 have hf:SetTable.fits { mask,place:=((Za7 mask owner).map (·.1)).toArray,dummies:=#[],finger:=t.finger,led:=t.led,moves:=t.movedTo mask,plain:=t.plain } (((Za7 mask owner).map (·.2)).toArray.filterMap (es[·]?)).size=true:=by rw[hsz];unfold SetTable.fits SetTable.fill;rw[Bool.and_eq_true];refine ⟨by rw[T'.sz];simp,?_⟩;have:=T'.sz;dsimp only at this ⊢;rw[this];exact decide_eq_true hn
 rw[hf];rfl
set_option maxRecDepth 1000000
noncomputable def ent (p:Int × Tok):Int × Value:=(hashInt p.1,.int p.1 p.2)
structure TSet (o:Obj) (led:Bool) (ks:List Int):Prop where
 ex:o.ExactSet
 da:∃ (es:Array (Int × Value)) (ep:Nat) (t:SetTable) (L:List (Int × Tok)),o.data = .set es ep t/\es.toList=L.map ent/\(L.map (·.1)).Perm ks/\TOk t ks.length/\t.led=led/\ks.length * 5 < t.mask * 3
noncomputable def Zdr (e:Int × Value):Int × Tok:=match e.2 with | .int i u=>(i,u) | _=>(0,0)
theorem Zhc {l:List (Int × Value)}{L:List (Int × Tok)} (h:l.Perm (L.map ent)):l=(l.map Zdr).map ent/\(l.map Zdr).Perm L:=by
 refine ⟨?_,?_⟩
 .rw [List.map_map];refine (List.map_id' l).symm.trans (List.map_congr_left λe he=>?_);obtain ⟨p,_,rfl⟩:=List.mem_map.mp (h.mem_iff.mp he);rfl
 .have:=h.map Zdr
  rwa [List.map_map,show (Zdr ∘ ent)=_root_.id from rfl,List.map_id]at this
theorem TOk.fits {t:SetTable}{n:Nat} (T:TOk t n) (h:n * 5 < t.mask * 3):t.fits n=true:=by unfold SetTable.fits SetTable.fill;rw[Bool.and_eq_true];refine ⟨by rw[T.sz];simp,?_⟩;rw[T.sz,T.dum];exact decide_eq_true (by show n + 0<=t.mask;lia)
theorem Zj0 (L:List (Int × Tok)):ElemsOf (intKind PW W0) (L.map ent):=λe he=>by obtain ⟨p,_,rfl⟩:=List.mem_map.mp he;exact ⟨⟨p.1,by simp[intKind,Value.isInt,ent],rfl⟩,rfl⟩
section
variable {A:Around}{E:ET}{s:Shared}
theorem Zfg {a:Addr}{o:Obj}{es es':Array (Int × Value)}{ep:Nat}{t t':SetTable}{h:Heap} (ho:h.get? a=some o) (hd:o.data = .set es ep t):(h.update a (Obj.putSet es' t')).get? a=some { o with data:=.set es' (ep + 1) t' }:=by have:=Heap.get?_update_self (Obj.putSet es' t') ho (by rw[putSet_of es' t' hd];rfl);rw[putSet_of es' t' hd]at this;exact this
theorem Zh1 {a:Addr}{o:Obj}{led:Bool}{ks:List Int}{k:Int}{tk:Tok}{Q:ET} (ho:s.heap.get? a=some o) (T:TSet o led ks) (hk:k ∉ ks) (hn:ks.length + 1<=61)
  (h:∀ h' o',Heap.SameBut a s.heap h'->h'.get? a=some o'->TSet o' led (k :: ks)->Q .none { s with heap:=h',toks:=s.toks + 1 }) :
  wpAny (model PW W0) A (call (.builtin "set.add") [.ref a,.int k tk]) Q E s:=by
 refine hide λ_ Z=>?_;obtain ⟨hex,es,ep,t,L,hd,hes,hp,T,hl,hfew⟩:=T;apply Z;clear Z;have hlen:es.size=ks.length:=by rw[<-Array.length_toList,hes,List.length_map,<-hp.length_eq,List.length_map]
 have hT:s.TypeIs (.ref a) "set" := ⟨o,ho,hex.1⟩;have hkey:(intKind PW W0).is k (.int k tk)=true:=by simp[intKind,Value.isInt]
 have hf:t.fits es.size=true:=by rw[hlen];exact T.fits hfew
 have hel:ElemsOf (intKind PW W0) es.toList:=by rw[hes];exact Zj0 L
 have hb:es.size < scanBound:=by have:scanBound=4096:=rfl;lia
 refine wpAny_call_entry F.slot_set_add hT F.entry_set_add ?_ (F.args_set_add_2 _ _);unfold Builtin.«set.add» Builtin.Frozenset.oneOther;simp only[List.isEmpty_nil,bind_assoc];unfold Builtin.Frozenset.addrOf setAdd;refine wB (wP ?_)
 try dsimp only
 refine wB (wP ?_)
 try dsimp only
 refine wB (wpAny_holding (wB ((intKind PW W0).pyHash hkey ?_)));unfold setAddHashed setAddHashedIn;refine wpAny_holding (wB (wpAny_setState_of (s:={ s with toks:=s.toks + 1 }) ho hd hf ?_));dsimp only;rw[byScan_of (knd:=intKind PW W0) (x:=.int k tk) rfl hb hel];simp only[↓reduceIte];unfold setAddByScan;refine wB (wB (wpAny_rule (wB (wpAny_setScan_of (s:={ s with toks:=s.toks + 1 }) hkey ho hd hf hel ?_))));have hr:List.findIdx? (λe=>(intKind PW W0).is k e.2) es.toList=none:=by
  rw[List.findIdx?_eq_none_iff,hes];intro e he;obtain ⟨p,hp',rfl⟩:=List.mem_map.mp he;refine Bool.eq_false_iff.mpr λe=>hk (hp.mem_iff.mp ?_);have:p.1=k:=by simpa [intKind,Value.isInt,ent] using e
  exact this ▸ List.mem_map.mpr ⟨p,hp',rfl⟩
 rw[hr];dsimp only;refine hide λ_ Z=>?_;have h8:ks.length + 1<=t.mask:=by rcases T.mk7 with e | e | e <;> lia
 obtain ⟨pp,t',eL,T',hm',hl'⟩:=Zjg T hlen h8 ((intKind PW W0).hash k) (.int k tk);apply Z;clear Z;rw[eL];dsimp only;refine wB (wP ?_);rw[if_pos T'.plain,hashByValue_scannable 8 rfl];refine wB (wP ?_);have hpt:(if plainKind (.int k tk)=true then t' else { t' with plain:=false })=t':=rfl;rw[hpt];have hz1:(SetTable.insertAt es pp ((intKind PW W0).hash k,Value.int k tk)).size=ks.length + 1:=by rw[Zbj,hlen]
 have hes1:(SetTable.insertAt es pp ((intKind PW W0).hash k,Value.int k tk)).toList=((L.take pp) ++ (k,tk) :: L.drop pp).map ent:=by rw[SetTable.toList_insertAt,hes,List.map_append,List.map_cons,List.map_take,List.map_drop];rfl
 have hp1:(((L.take pp) ++ (k,tk) :: L.drop pp).map (·.1)).Perm (k :: ks):=by refine (List.perm_middle.map _).trans ?_;rw[List.map_cons,List.take_append_drop];exact .cons _ hp
 generalize SetTable.insertAt es pp ((intKind PW W0).hash k,Value.int k tk)=es1 at hz1 hes1 ⊢;refine wB (wpAny_storeSet_of (s:={ s with toks:=s.toks + 1 }) ho hd ?_ (by rw[hz1];have:=sizeLine_eq;lia));have ho1:=Zfg (es':=es1) (t':=t') ho hd;have hs1:=Heap.SameBut.update s.heap a (Obj.putSet es1 t');have hff:t'.fill=ks.length + 1:=by unfold SetTable.fill;rw[T'.sz,T'.dum];rfl
 by_cases hfull:t'.tooFull=true
 .have hc:(!false && t'.tooFull)=true:=by rw[hfull];rfl
  rw[if_pos hc];refine hide λ_ Z=>?_;have hfu:t'.mask * 3<=(ks.length + 1) * 5:=by
   unfold SetTable.tooFull at hfull;rw[hff]at hfull
   simpa using hfull
  have hgr:Mk (SetTable.sizeAbove (SetTable.grown es1.size) - 1)/\(ks.length + 1) * 5 < (SetTable.sizeAbove (SetTable.grown es1.size) - 1) * 3:=by
   rw[hz1];rcases T.mk7 with e | e | e
   .have:ks.length=4:=by lia
    rw[this];decide
   .have:ks.length=18:=by lia
    rw[this];decide
   .lia
  obtain ⟨es2,t2,eR,T2,hm2,hl2⟩:=Zgm (es:=es1) T' hz1 hgr.1 (by lia);apply Z;clear Z;have pz:=relayAll_perm t' es1 (SetTable.grown es1.size);rw[eR]at pz ⊢;dsimp only at pz ⊢;refine wB (wP ?_);have hz2:es2.size=ks.length + 1:=by rw[<-Array.length_toList,pz.length_eq,Array.length_toList,hz1]
  refine wB (wpAny_storeSet_of (s:={ s with toks:=s.toks + 1,heap:=s.heap.update a (Obj.putSet es1 t') }) ho1 rfl ?_ (by rw[hz2];have:=sizeLine_eq;lia));have ho2:=Zfg (es':=es2) (t':=t2) ho1 rfl;have hs2:=hs1.trans (Heap.SameBut.update (s.heap.update a (Obj.putSet es1 t')) a (Obj.putSet es2 t2));obtain ⟨q1,q2⟩:=Zhc (hes1 ▸ pz);exact wP (wP (wP ⟨_,rfl,h _ _ hs2 ho2 ⟨hex,es2,_,t2,_,rfl,q1,(q2.map (·.1)).trans hp1,T2,by rw[hl2,hl',hl],by rw[hm2];exact hgr.2⟩⟩))
 .have hc:(!false && t'.tooFull)=false:=by rw[Bool.not_eq_true _ |>.mp hfull];rfl
  rw[hc,if_neg Bool.false_ne_true];have hfu:(ks.length + 1) * 5 < t'.mask * 3:=by
   unfold SetTable.tooFull at hfull;rw[hff]at hfull
   simpa using hfull
  exact wP (wP (wP ⟨_,rfl,h _ _ hs1 ho1 ⟨hex,es1,_,t',_,rfl,hes1,hp1,T',by rw[hl',hl],hfu⟩⟩))
theorem Zni {Q₁:ET} (h:Q₁ (.ref s.heap.objs.size) { s with heap:=s.heap.push { cls:=.type "set",dict:=none,data:=.set #[] 0 (.fresh 0 0 (!(W0.params.followText "set-order"))) } }) :
  codeAny (model PW W0) A (.call (.builtin "set.__new__") ⟨[.type "set"],[]⟩) (wants Q₁ E) s:=by
 refine codeAny_of_tree ?_;show wpAny _ A.in1 (do checkBuiltinCall "set.__new__" ⟨[.type "set"],[]⟩;again (.builtin "set.__new__" ⟨[.type "set"],[]⟩)) _ _ s;refine wB (wpAny_of_eq F.newCall_set_0 (wP ⟨plainId_quiet F.plain_set_new _,codeAny_builtin F.entry_set_new ?_⟩));rw[Around.under_plainId F.plain_set_new _];unfold Builtin.«set.__new__» Builtin.Frozenset.newClass;have hsub:=sub_set_self;obtain ⟨hp,g,d,tk,os⟩:=s;dsimp only
 wp_walk
 refine wpAny_askSetting (wP ?_);dsimp only;simp only[newObj];exact wB (wpAny_alloc (wP (wP h)))
end
noncomputable abbrev set0 (W0:World):Obj:={ cls:=.type "set",dict:=none,data:=.set #[] 0 (.fresh 0 0 (!(W0.params.followText "set-order"))) }
noncomputable abbrev ledW (W0:World):Bool:=!(W0.params.followText "set-order")
theorem TSet.new (W0:World):TSet (set0 W0) (ledW W0) []:=⟨⟨rfl,rfl,rfl⟩,#[],0,_,[],rfl,rfl,.refl _,⟨rfl,rfl,rfl,List.Pairwise.nil,(λx hx=>by cases hx),.inl rfl⟩,rfl,(show 0 * 5 < 7 * 3 by decide)⟩
section
variable {K:Frag}
theorem Zj7 {s:Shared}{Q:ET} (h:Q (.ref s.heap.objs.size) { s with heap:=s.heap.push (set0 W0) }):wpAny (model PW W0) A (call (.type "set") []) Q E s:=by
 obtain ⟨c,tl,hmro⟩:=F.called_set.mro;have hmade:=F.called_set.made;have hsub:=F.called_set.sub;refine wpAny_call (codeAny_of_tree ?_);show wpAny _ _ (callAny (.type "set") _) _ _ _;refine wP ⟨Code.quiet_builtin _ (by decide +kernel),codeAny_builtin F.entry_type_call ?_⟩;rw[Around.under_plain (weight_type_call_type "set" [] []) rfl];have h1:=F.called_set.notType;have h2:=F.called_set.canCreate;have hct:=F.typeCall_set_0
 repeat (any_goals (first | assumption | wp_step))
 refine codeAny_mono (Zni (E:=E) (Q₁:=λobj sY=>obj = .ref s.heap.objs.size/\sY={ s with heap:=s.heap.push (set0 W0) }) ⟨rfl,rfl⟩) λr sY hr=>?_;cases r with
 | error e=>exact hr
 | ok fl=>
  cases fl with
  | ret obj=>
   obtain ⟨rfl,rfl⟩:=hr;have hS:(s.heap.push (set0 W0)).get? s.heap.objs.size=some (set0 W0):=Heap.get?_push_size _ rfl;have hT:Shared.TypeIs { s with heap:=s.heap.push (set0 W0) } (.ref s.heap.objs.size) "set" := ⟨_,hS,rfl⟩;have hli:=F.called_set.init.lookup;have hbi:=F.called_set.init.bind (.ref s.heap.objs.size)
   repeat (any_goals (first | assumption | wp_step))
   refine codeAny_mono (codeAny_call_builtin (R:=wants (λr s₂=>r = .none/\Q (.ref s.heap.objs.size) s₂) E) F.called_set.init.plain F.entry_set_init (check_set_init hT ?_)) λr₂ s₂ hr₂=>?_
   .unfold Builtin.«set.__init__» noKeywords
    wp_walk
    exact ⟨rfl,h⟩
   .cases r₂ with
    | error e=>exact hr₂
    | ok fl₂=>
     cases fl₂ with
     | ret r=>
      obtain ⟨rfl,hq⟩:=hr₂
      repeat (any_goals (first | assumption | wp_step))
     | _=>exact hr₂.elim
  | _=>exact hr.elim
theorem TSet.notImm {o:Obj}{led:Bool}{ks:List Int} (T:TSet o led ks):¬ Imm o:=λi=>by obtain ⟨_,_,_,_,hd,_⟩:=T.da;obtain ⟨_,_,_,e⟩:=i;rw[hd]at e;cases e
theorem Zof {func:Expr} {pos}{Q:QV}
  (h:EV (model PW W0) A E B env func m hp λf hpY=>f = .ty "set" /\ ∀ a,hpY a=none->a≠env.locals->Q (.ref a) (hpY.set a (.obj (set0 W0))))
  (hc:autoParam (eval (.Call func [] [] pos) env=(do callWith pos (<-eval func env) [] (backTo pos (starEach [] env)) (backToKw pos (keywordEach [] env)))) rB):EV (model PW W0) A E B env (.Call func [] [] pos) m hp Q:=λs r=>by
 refine Call_ (h.use r λu sY f hpY rY leY hu yq=>?_) hc;obtain ⟨hf,q⟩:=yq;subst hf;simp only[VR]at hu;subst hu;refine PyProof.Rows.callWith_type0 (Zj7 ?_);have n:=rY.newAt (set0 W0) (.obj (set0 W0)) ⟨Heap.get?_push_size _ rfl,(TSet.new W0).notImm⟩;exact mkV (av:=.ref _) n.1 (leY.trans n.2.2.2) VR_ref (q _ n.2.1 n.2.2.1)
theorem Zit {a:Addr}{o:Obj}{led:Bool}{ks:List Int}{k:Int}{Q:QV} (ha:hp a=some (.obj o)) (haL:a≠env.locals) (T:TSet o led ks) (hk:k ∉ ks) (hn:ks.length + 1<=61) (h:∀ o',TSet o' led (k :: ks)->Q .none (hp.set a (.obj o'))) :
  CL (model PW W0) A E B env (.builtin "set.add") m [.ref a,.int k] hp Q:=λs vs r hv=>by
 obtain ⟨v,u,rfl,h1,h2⟩:=Zbs hv;simp only[VR]at h1 h2;subst h1;obtain ⟨t,rfl⟩:=h2;refine Zh1 (r.at ha haL).1 T hk hn λh' o' hs ho' T'=>?_;have x:=r.turn (a:=a) (Hp.snt haL ha) hs (.obj o') (λ_=>⟨ho',T'.notImm⟩) (s.toks + 1);rw[Hp.sc _ _ _ (Ne.symm haL)]at x;exact mkV x.1 x.2 Zc8 (h o' T')
theorem Znt {d:Addr}{o:Obj}{led:Bool}{ks:List Int} (hd:hp d=some (.obj o)) (hL:d≠env.locals) (T:TSet o led ks):∀ s,Rel B (hp.set env.locals (.ns m)) s->∃ ob,s.heap.get? d=some ob/\ob.cls = .type "set" /\ ob.dict=none:=λs r=>⟨o,(r.at hd hL).1,T.ex.1,T.ex.2.1⟩
/-! del d[k] -/
noncomputable def Zbw (kvs:List (Int × AV)) (k:Int):List (Int × AV):=kvs.filter λkv=>decide (kv.1≠k)
theorem KVR.without {h:Heap}{k:Int}:∀ {kvs:List (Int × AV)}{ps:List (Int × Value)},KVR h kvs ps->KVR h (Zbw kvs k) (without ps k):=by
 intro r_
 induction r_ with
 | nil=>
  intro ps x;have:ps=[]:=List.map_eq_nil_iff.mp x.1;subst this;exact ⟨rfl,by simp[Zbw,PySem.without,VRs]⟩
 | cons kv_ kvs ih=>
  obtain ⟨k',v⟩:=kv_;intro ps x;obtain ⟨u,r,rfl,hv,x'⟩:=KVR.cons x;have ih:=ih x';unfold Zbw PySem.without at *;by_cases e:k'=k
  .rw [List.filter_cons_of_neg (by simp[e]),List.filter_cons_of_neg (by simp[e])];exact ih
  .rw [List.filter_cons_of_pos (by simp[e]),List.filter_cons_of_pos (by simp[e])];exact KVR.mk_cons hv ih
theorem Zf0 (kvs:List (Int × AV)) (k k':Int):dget (Zbw kvs k) k'=if k'=k then none else dget kvs k':=by
 unfold dget Zbw
 induction kvs with
 | nil=>simp
 | cons a r ih=>
  by_cases e:a.1=k
  .rw [List.filter_cons_of_neg (by simp[e]),ih];by_cases e':k'=k
   .rw [if_pos e',if_pos e']
   .rw [if_neg e',if_neg e',List.find?_cons_of_neg (by simp;lia)]
  .rw [List.filter_cons_of_pos (by simp[e])];by_cases e':a.1=k'
   .rw [List.find?_cons_of_pos (by simp[e']),if_neg (by lia),List.find?_cons_of_pos (by simp[e'])]
   .rw [List.find?_cons_of_neg (by simp[e']),ih];by_cases e'':k'=k
    .rw [if_pos e'',if_pos e'']
    .rw [if_neg e'',if_neg e'',List.find?_cons_of_neg (by simp[e'])]
theorem Zir {o i:Expr} {pos spos}{Q:QX}
  (h:EV (model PW W0) A E B env o m hp λov hpY=>EV (model PW W0) A E B env i m hpY λiv hp₂=>∃ d kvs k,ov = .ref d/\iv = .int k/\hp₂ d=some (.dict kvs)/\d≠env.locals/\kvs.length<=5000/\dget kvs k≠none/\Q .next m (hp₂.set d (.dict (Zbw kvs k)))) :
  EX (model PW W0) A E B env (.Delete [.Subscript o i pos] spos) m hp Q:=λs r=>by
 refine wpAny_Delete (wpAny_deleteEach_cons (PyProof.Rows.delete_Subscript (h.use r λov sY av hpY rY leY hov q=>q.use rY λiv s₂ bv hp₂ r₂ le₂ hiv x=>?_)));refine hide λ_ Z=>?_;obtain ⟨d,kvs,k,rfl,rfl,hd,hL,hlen,hin,q⟩:=x;have hki:=Zcj hiv;simp only[VR]at hov;subst hov;obtain ⟨ps,hD,hK⟩:=r₂.dict hd hL;have hsome:(valueAt ps k).isSome=true:=by
  cases e:dget kvs k with
  | none=>exact absurd e hin
  | some x=>obtain ⟨u,hu,_⟩:=(hK.get (k:=k)).1 x e;rw[hu];rfl
 apply Z;clear Z;have hT:=(hD PW W0).typeIs (s:=s₂);unfold delItem
 try with_reducible refine wpAny_holding ?_
 refine wB (wpAny_sequenceKey hT (by decide) ?_)
 refine wB (wpAny_callSpecial?_slot (name:=PySem.Str.ofString "__delitem__") hT PySem.F.slot_dict_delitem
  (call_meetsIn PySem.F.slot_dict_delitem hT PySem.F.entry_dict_delitem (PySem.F.args_dict_delitem_2 _ _) (meets_dict_delitem_pairs (intKind PW W0) d hki) ⟨ps,hD PW W0,(by rw[hK.length];have:=sizeLine_eq;(exact Nat.le_trans ‹_› (by decide))),hsome,λh' hmm hs=>?_⟩))
 have x:=r₂.putDict (kvs':=Zbw kvs k) hd hL hmm hs (λle=>(hK.mono le).without) (s₂.toks + 1);exact wP (wpAny_deleteEach_nil ⟨.next,m,_,x.1,(leY.trans le₂).trans x.2,rfl,q⟩)
end
set_option maxRecDepth 100000
theorem Zh4 {α:Type}{l:List α}{i:Nat} (h:i < l.length):(l[i] :: l.eraseIdx i).Perm l:=by rw[List.eraseIdx_eq_take_drop_succ];refine List.perm_middle.symm.trans (.of_eq ?_);rw[<-List.drop_eq_getElem_cons h,List.take_append_drop]
theorem Zfi {α:Type} (next:Nat->Nat):∀ (n k:Nat) (left:List α) (out:Array α),left.length=n->(pickOrder.go next n k left out).toList.Perm (out.toList ++ left)
 | 0,k,left,out,h=>by have:left=[]:=List.length_eq_zero_iff.mp h;subst this;rw[List.append_nil];exact .refl _
 | n + 1,k,left,out,h=>by
  have hi:next k % left.length < left.length:=Nat.mod_lt _ (by (exact F20 0x7044680760 0x110 rfl h))
  rw[pickOrder.go,List.getElem?_eq_getElem hi];refine (Zfi next n (k + 1) _ _ (by rw[List.length_eraseIdx_of_lt hi];(exact F20 0x976690860671a 0x10001110101011011001 rfl h))).trans ?_;rw[Array.toList_push,List.append_assoc];exact .append_left _ (Zh4 hi)
section
variable {K:Frag}
noncomputable def ordA (W0:World) (a:Addr) (es:Array (Int × Value)) (ep:Nat):Array (Int × Value):=if W0.params.followText "set-order" = true then pickOrder (W0.params.setOrder a ep) es else es
theorem Zfl (W0:World) (a:Addr) (es:Array (Int × Value)) (ep:Nat):(ordA W0 a es ep).toList.Perm es.toList:=by
 unfold ordA;split
 .have:=Zfi (W0.params.setOrder a ep) es.size 0 es.toList #[] (by simp)
  simpa [pickOrder] using this
 .exact .refl _
noncomputable def slA (W0:World) (t:SetTable):Nat->Nat
 | 0=>0
 | i + 1=>if W0.params.followText "set-order" = true then 0 else t.place.getD i 0 + 1
theorem Znh (W0:World) (t:SetTable) (i:Nat):slA W0 t (i + 1)=if W0.params.followText "set-order" = true then 0 else t.place.getD i 0 + 1:=rfl
theorem Zk8 (h:W0.params.followText "set-order" = true) (t:SetTable):∀ i,slA W0 t i=0
 | 0=>rfl
 | i + 1=>by rw[Znh,if_pos h]
theorem Zk9 {a:Addr}{o:Obj}{es:Array (Int × Value)}{ep i:Nat}{t:SetTable}{s:Shared}{Q:Option (Value × Nat)->Shared->Prop} (ho:s.heap.get? a=some o) (hd:o.data = .set es ep t) (hf:t.fits es.size=true) (T:TOk t es.size) (hl:t.led=ledW W0) (hi:i<=es.size)
  (h:Q ((ordA W0 a es ep)[i]?.map λe=>(e.2,slA W0 t (i + 1))) s):wpAny (model PW W0) A (setNext a (slA W0 t i) i ep) Q E s:=by
 unfold setNext;refine wB (wpAny_setState_of ho hd hf ?_);refine wB (Zcp ?_);by_cases hb:W0.params.followText "set-order" = true
 .rw [if_pos hb,if_neg (by simp)];refine wB ?_;unfold setWalk;refine wB (wpAny_setState_of ho hd hf ?_);refine wB (Zcp ?_);rw[if_pos hb];refine wB (wpAny_askSetting (wP (wP ?_)));rw[Zk8 hb]at h ⊢;unfold ordA at h;rw[if_pos hb]at h;exact h
 .rw [if_neg hb];have hbf:W0.params.followText "set-order" = false:=by simpa using hb
  split
  .rename_i h';have h2:(!t.plain && decide (es.size > 1))=true:=h';rw[T.plain]at h2;cases h2
  .show wpAny _ _ ((if (!t.led && !es.isEmpty)=true then unsupported "set:maker-not-led" else pure ()) >>= λ_=>_) _ _ _;have hled:t.led=true:=by rw[hl];unfold ledW;rw[hbf];rfl
   rw[if_neg (by rw[hled];simp)];refine wB (wP ?_);have hbelow:SetTable.below t.place (slA W0 t i)=i:=by
    cases i with
    | zero=>exact Zia T.rise
    | succ i=>
     rw[Znh,if_neg hb];have hi':i < t.place.size:=by rw[T.sz];assumption
     have hx:t.place[i]?=some t.place[i]:=Array.getElem?_eq_getElem hi';rw[Zc5 hx];exact (Zhn T.rise hx).2
   dsimp only;rw[hbelow];refine wP ?_;unfold ordA at h;rw[if_neg hb]at h;rcases Nat.lt_or_ge i es.size with h1 | h1
   .have h2:i < t.place.size:=by rw[T.sz];exact h1
    rw[Array.getElem?_eq_getElem h1,Array.getElem?_eq_getElem h2];rw[Array.getElem?_eq_getElem h1]at h;rw[Znh,if_neg hb,Zc5 (Array.getElem?_eq_getElem h2)]at h;exact h
   .rw [Array.getElem?_eq_none h1]at h ⊢;exact h
noncomputable abbrev itSt (W0:World) (t:SetTable) (a:Addr) (n ep i:Nat) (o:Obj):Prop:=o.cls = .type "set_iterator" /\ o.data = .fields #[rawInt (slA W0 t i),rawInt i,.ref a,rawInt n,rawInt ep]
theorem Zjj {a:Addr}{o:Obj}{es:Array (Int × Value)}{ep:Nat}{t:SetTable}{s:Shared}{Q:ET} (ho:s.heap.get? a=some o) (hex:o.ExactSet) (hd:o.data = .set es ep t) (hf:t.fits es.size=true) (hpl:t.plain=true)
  (hQ:Q (.ref s.heap.objs.size) { s with heap:=s.heap.push { cls:=.type "set_iterator",data:=.fields #[rawInt 0,rawInt 0,.ref a,rawInt es.size,rawInt ep] } }):wpAny (model PW W0) A (pyIter (.ref a)) Q E s:=by
 have hT:s.TypeIs (.ref a) "set" := ⟨o,ho,hex.1⟩;refine wpAny_pyIter_slot hT F.slot_set_iter (wpAny_call_entry F.slot_set_iter hT Zd9 ?_ (F.args_set_iter_1 _));unfold Builtin.«frozenset.__iter__» Builtin.Frozenset.slot0 slotArgs;simp only[List.isEmpty_nil,Bool.not_true,Bool.false_eq_true,↓reduceIte,bind_assoc,List.length_nil,bne_self_eq_false];unfold Builtin.Frozenset.addrOf Builtin.Frozenset.sizeOf;refine wB (wP ?_)
 try dsimp only
 refine wB (wP ?_);refine wB (wB (wpAny_setEntries_of ho hd hf (wP ?_)));unfold setDrawn;refine wB (wB (wpAny_setState_of ho hd hf ?_));refine wB (Zcp (wP ?_));split
 .rename_i h;have h':(!W0.params.followText "set-order" && (!t.plain && decide (es.size > 1)))=true:=h;rw[hpl]at h';simp at h'
 .refine wB (wP (wB (wpAny_setEpoch_of ho hd hf ?_)));exact wB (wpAny_newObj_type (wP ⟨_,rfl, "set_iterator",_,⟨_,Heap.get?_push_size _ rfl,rfl⟩,slot_si_next.lookup,hQ⟩))
theorem Zfp {a it:Addr}{o ob:Obj}{es:Array (Int × Value)}{ep i:Nat}{t:SetTable}{s:Shared}{Q:Option Value->Shared->Prop} (hh:A.handled=none) (ho:s.heap.get? a=some o) (hd:o.data = .set es ep t) (hf:t.fits es.size=true) (T:TOk t es.size) (hl:t.led=ledW W0) (hi:i<=es.size) (hai:it≠a)
  (hit:s.heap.get? it=some ob) (hst:itSt W0 t a es.size ep i ob)
  (hQ:match (ordA W0 a es ep)[i]? with | some e=>∀ h' ob',h'.get? it=some ob'->itSt W0 t a es.size ep (i + 1) ob'->Heap.SameBut it s.heap h'->Q (some e.2) { s with heap:=h' } | none=>∀ h',Heap.ExtBut it s.heap h'->Q none { s with heap:=h' }):wpAny (model PW W0) A (pyNext (.ref it)) Q E s:=by
 have hT:s.TypeIs (.ref it) "set_iterator" := ⟨_,hit,hst.1⟩;unfold pyNext;refine wB (wpAny_attempt (wpAny_callSpecial?_slot (name:=PySem.Str.ofString "__next__") hT slot_si_next (wpAny_call_entry slot_si_next hT Ze1 ?_ (Zf5 _))));show wpAny _ _ (fieldsOf (.ref it) >>= _) _ _ s;refine wB (wpAny_fieldsOf hit hst.2 ?_);dsimp only;refine wB (wpAny_setEntries_of ho hd hf ?_);have hne:((es.size:Int) != (es.size:Int))=false:=by simp
 simp only[rawInt];rw[hne,if_neg Bool.false_ne_true];refine wB (wpAny_mono (Q:=λr s'=>r=((ordA W0 a es ep)[i]?.map λe=>(e.2,slA W0 t (i + 1)))/\s'=s) (E:=λ_ _=>False) ?_ ?_ ?_)
 .simp only [Int.toNat_natCast];exact Zk9 ho hd hf T hl hi ⟨rfl,rfl⟩
 .rintro r s' ⟨rfl,rfl⟩;cases e:(ordA W0 a es ep)[i]? with
  | some x=>
   rw[e]at hQ;dsimp only [Option.map]at hQ ⊢;refine wB (wpAny_setField hit hst.2 (by simp) ?_);have h1:(s'.heap.update it (Obj.mapFields (·.setIfInBounds 0 (rawInt (slA W0 t (i + 1)))))).get? it=some (Obj.mapFields (·.setIfInBounds 0 (rawInt (slA W0 t (i + 1)))) ob):=Heap.get?_update_self _ hit (Obj.isFreed_of_fields (Obj.data_mapFields hst.2 _));refine wB (wpAny_setField (s:={ s' with heap:=s'.heap.update it (Obj.mapFields (·.setIfInBounds 0 (rawInt (slA W0 t (i + 1))))) }) h1 (Obj.data_mapFields hst.2 _) (by simp) ?_);refine wP ⟨x.2,rfl,wP (hQ _ _ (Heap.get?_update_self _ h1 (Obj.isFreed_of_fields (Obj.data_mapFields (Obj.data_mapFields hst.2 _) _))) ⟨(Obj.cls_mapFields ..).trans ((Obj.cls_mapFields ..).trans hst.1),?_⟩ ((Heap.SameBut.update ..).trans (Heap.SameBut.update ..)))⟩;rw[Obj.data_mapFields (Obj.data_mapFields hst.2 _)];simp[rawInt]
  | none=>
   rw[e]at hQ;dsimp only [Option.map]at hQ ⊢;refine wB (wpAny_setField hit hst.2 (by simp) ?_);show wpAny _ _ (newExc (.type "StopIteration") [] >>= _) _ _ _;refine wB ?_;simp only[newExc,newTuple];refine wB (wpAny_newObj_type ?_ (by size_fits));refine wB (m:=firstArgMember _ _) (wpAny_of_eq (a:=Value.none) (by first | rfl | (simp only[firstArgMember];rfl)) ?_);refine wpAny_newObj_type ?_ (by size_fits);dsimp only [raiseNew];refine wB (wpAny_handled ?_);rw[show A.in1.handled=none from hh];refine wB (wP (wpAny_throw ?_));refine wB (wpAny_isInstance (T := "StopIteration") (b:=true) ⟨_,Heap.get?_push_size _ rfl,rfl⟩ isSubtype_stop ?_);exact wP (hQ _ (((Heap.SameBut.update ..).extBut.push _).push _))
 .exact λ_ _ x=>x.elim
noncomputable abbrev Zmb (PW:Program) (W0:World) (A:Around) (B:Shared) (env:Env) (target:Expr) (body:List Stmt) (m:Loc) (hpY:Hp) (Q:QX) (a:Addr) (ob:Obj) (n it:Addr) (ord:List Int):Prop:=
 ∃ I:Nat->Loc->Hp->Prop,(∀ o,I 0 m (hpY.set it (.obj o)))/\(∀ i m₂ hp₂ o,I i m₂ hp₂->I i m₂ (hp₂.set it (.obj o)))/\(∀ i m₂ hp₂,I i m₂ hp₂->hp₂ a=some (.obj ob)) /\
  (∀ i k m₂ hp₂ o,ord[i]?=some k->I i m₂ hp₂->hp₂ it=some (.obj o)->ASG (model PW W0) A (λ_ _=>False) B env target (.int k) m₂ hp₂ λm₃ hp₃=>EXs (model PW W0) A (λ_ _=>False) B env body m₃ hp₃ λfl mj hpj=>
   match fl with | .next | .cont=>I (i + 1) mj hpj/\hpj it=some (.obj o) | .brk=>Q .next mj hpj | .ret v=>Q (.ret v) mj hpj) /\
  ∀ m₂ hp₂,I n m₂ hp₂->Q .next m₂ (hp₂.del it)
theorem Zio {target iter:Expr}{body:List Stmt} {pos}{Q:QX} (hh:A.handled=none)
  (h:EV (model PW W0) A E B env iter m hp λo hpY=>∃ a ob ks,o = .ref a/\hpY a=some (.obj ob)/\a≠env.locals/\TSet ob (ledW W0) ks/\∀ it (ord:List Int),ord.Perm ks->hpY it=none->it≠env.locals->Zmb PW W0 A B env target body m hpY Q a ob ks.length it ord)
  (hs:∀ x,foldedSetIterable iter env x=pure x:=by intro _;rfl) :
  EX (model PW W0) A E B env (.For target iter body [] pos) m hp Q:=λs r=>by
 refine wpAny_For (h.use r λu sY o hpY rY leY hu x=>?_) hs;refine hide λ_ Z=>?_;obtain ⟨a,o,ks,rfl,ha,hL,T,x⟩:=x;simp only[VR]at hu;subst hu;obtain ⟨hex,es,ep,t,L,hd,hes,hpm,T,hl,hfew⟩:=T;have hlen:es.size=ks.length:=by rw[<-Array.length_toList,hes,List.length_map,<-hpm.length_eq,List.length_map]
 have ho:=(rY.at ha hL).1;have hf:t.fits es.size=true:=by rw[hlen];exact T.fits hfew
 apply Z;clear Z;rw[<-hlen]at T x;refine Zjj ho hex hd hf T.plain ?_;refine hide λ_ Z=>?_;have n:=rY.newAt { cls:=.type "set_iterator",data:=.fields #[rawInt 0,rawInt 0,.ref a,rawInt es.size,rawInt ep] } (.obj { cls:=.type "set_iterator",data:=.fields #[rawInt 0,rawInt 0,.ref a,rawInt es.size,rawInt ep] }) ⟨Heap.get?_push_size _ rfl,λi=>by obtain ⟨_,_,_,e⟩:=i;cases e⟩;have hai:=Hp.ne_of ha n.2.1;have hpo:=Zhc ((Zfl W0 a es ep).trans (.of_eq hes));have hord:(((ordA W0 a es ep).toList.map Zdr).map (·.1)).Perm ks:=(hpo.2.map (·.1)).trans hpm;have hoz:(ordA W0 a es ep).size=es.size:=by rw[<-Array.length_toList,(Zfl W0 a es ep).length_eq,Array.length_toList]
 obtain ⟨I,i0,iset,iat,iturn,ifin⟩:=x sY.heap.objs.size _ hord n.2.1 n.2.2.1;apply Z;clear Z;have hoe:∀ (i:Nat) (e:Int × Value),(ordA W0 a es ep)[i]?=some e->∃ tk,e.2 = .int ((((ordA W0 a es ep).toList.map Zdr).map (·.1)).getD i 0) tk:=λi e he=>by
  rw[<-Array.getElem?_toList]at he;have h1:(((ordA W0 a es ep).toList.map Zdr).map (·.1)).getD i 0=(Zdr e).1:=by rw[List.getD_eq_getElem?_getD,List.getElem?_map,List.getElem?_map,he];rfl
  have h2:e ∈ ((ordA W0 a es ep).toList.map Zdr).map ent:=by rw[<-hpo.1];exact List.mem_of_getElem? he
  obtain ⟨p,_,rfl⟩:=List.mem_map.mp h2;rw[h1];exact ⟨p.2,rfl⟩
 refine Zdo (n:=es.size) (el:=λi=>.int ((((ordA W0 a es ep).toList.map Zdr).map (·.1)).getD i 0)) (st:=λi ob=>itSt W0 t a es.size ep i ob) (I:=I) n.2.2.1 (λi ob x i'=>by obtain ⟨_,_,_,e⟩:=i';rw[x.2]at e;cases e) (λi m₂ hp₂ s' ob hi hI hob hst r' E' W k=>?_) (λm₂ hp₂ s' ob hI hob hst r' E' W k=>?_) iset (λi m₂ hp₂ ob hi hI hob=>iturn i _ m₂ hp₂ ob ?_ hI hob) ifin (λfl af m' hp' s' r' le' hf' q=>⟨af,m',hp',r',le',hf',q⟩) (i0 _) (Hp.ss ..) ⟨rfl,rfl⟩ n.1 (leY.trans n.2.2.2) (λ_ _ x=>⟨_,x.1,rfl⟩) (λ_ _ x=>x.elim)
 .have hi':i < (ordA W0 a es ep).size:=by rw[hoz];exact hi
  refine Zfp hh (r'.at (iat _ _ _ hI) hL).1 hd hf T hl (Nat.le_of_lt hi) (Ne.symm hai) (r'.at hob n.2.2.1).1 hst ?_;rw[Array.getElem?_eq_getElem hi'];obtain ⟨tk,e⟩:=hoe i _ (Array.getElem?_eq_getElem hi');dsimp only;exact λh' ob' hg hst' hs'=>k _ h' s'.toks ob' (by rw[e];exact VR_int) hg hst' hs'
 .refine Zfp hh (r'.at (iat _ _ _ hI) hL).1 hd hf T hl (Nat.le_refl _) (Ne.symm hai) (r'.at hob n.2.2.1).1 hst ?_;rw[Array.getElem?_eq_none (by rw[hoz];exact Nat.le_refl _)];exact λh' he=>k h' s'.toks he
 .have hi':i < (((ordA W0 a es ep).toList.map Zdr).map (·.1)).length:=by rw[List.length_map,List.length_map,Array.length_toList,hoz];exact hi
  rw[List.getD_eq_getElem?_getD,List.getElem?_eq_getElem hi'];rfl
end
theorem Zdu:Manifest.owners.lookup (String.ofList ['s','y','e','k','_','t','c','i','d'].reverse)=some Manifest.sig_dict_keys:=by kernel_rfl
theorem Zbn:Slot "dict_keys" "__iter__" "dict_keys.__iter__" :=
 .of (owner := "dict_keys") (n := "__iter__") (by rw[typeLookup_type,builtinLookup_eq_fast];kernel_rfl) (by decide +kernel) (by decide +kernel) (by decide +kernel)
  (by first | exact .inl (by decide +kernel) | exact .inr (by decide +kernel)) (by rw[isSubtype_type];kernel_rfl)
theorem Zcm:entryFor table "dict_keys.__iter__" = some Builtin.«dict_keys.__iter__»:=entryFor_of_tree (by kernel_rfl)
theorem Zcd (a:Value):argsOk "dict_keys.__iter__" ⟨[a],[]⟩:=by unfold argsOk;rw[signature?_of (id := "dict_keys.__iter__") (n:=['_','_','r','e','t','i','_','_']) (o:=['s','y','e','k','_','t','c','i','d']) (by kernel_rfl) Zdu];kernel_rfl
section
variable {K:Type} [DecidableEq K] {knd:KeyKind PW W0 K}{A:Around}{E:ET}{s:Shared}
theorem Zdv (knd:KeyKind PW W0 K) (d:Addr) (hd:(d == sysModules)=false) :
  MeetsIn PW W0 (Builtin.«dict.keys» ⟨[.ref d],[]⟩) (λ_ R s=>(∃ kvs,s.heap.DictOf knd d kvs) /\
   R (.ok (.ret (.ref s.heap.objs.size))) { s with heap:=s.heap.push { cls:=.type "dict_keys",data:=.fields #[.ref d] } }):=
 .of_wp λA R s ⟨⟨kvs,hm⟩,h⟩=>by refine wB ?_;unfold Builtin.Dict.noArgs;refine wB (wpAny_notOrdered_dict hm.typeIs ?_);show wpAny _ _ (pure d) _ _ s;refine wP ?_;show wpAny _ _ (Builtin.Dict.showsAll d >>= _) _ _ s;unfold Builtin.Dict.showsAll;rw[if_neg (by rw[hd];exact Bool.false_ne_true)];refine wB (wP ?_);exact wB (wpAny_newObj_type (wP ⟨_,rfl,h⟩))
noncomputable def Zdw (d:Addr):Obj:={ cls:=.type "dict_keys",data:=.fields #[.ref d] }
theorem Zjk {v d:Addr}{kvs:List (K × Value)}{ep:Nat}{Q:ET} (hv:s.heap.get? v=some (Zdw d)) (hm:s.heap.DictAt knd d kvs ep)
  (hQ:Q (.ref s.heap.objs.size) { s with heap:=s.heap.push { cls:=.type "dict_keyiterator",data:=.fields #[.ref d,.int 0 0,.int kvs.length 0,.int ep 0] } }) :
  wpAny (model PW W0) A (pyIter (.ref v)) Q E s:=by
 obtain ⟨o,es,ho,hc,hdat,hk,hp,hn⟩:=id hm;have hT:s.TypeIs (.ref v) "dict_keys" := ⟨_,hv,rfl⟩;refine wpAny_pyIter_slot hT Zbn (wpAny_call_entry Zbn hT Zcm ?_ (Zcd _));unfold Builtin.«dict_keys.__iter__»;refine wB (wP ?_);refine wB ?_;unfold Builtin.Dict_items.dictOf;refine wB (wpAny_field hv rfl (x:=.ref d) rfl (wP ?_));refine wB ?_;unfold Builtin.Dict_items.newIterator;refine wB (wpAny_dictEntries ho hdat ?_);refine wB (wpAny_dictEpoch ho hdat ?_);have hsz:es.size=kvs.length:=by rw[<-hp.length];simp
 have hown:Builtin.Dict_items.ownsTuple "dict_keyiterator" = false:=by decide
 simp only[hown,Bool.false_eq_true,if_false];refine wpAny_newObj_type (wP ⟨_,rfl, "dict_keyiterator",_,⟨_,Heap.get?_push_size _ rfl,rfl⟩,F.slot_dict_keyiterator_next.lookup,?_⟩)
 simpa [rawInt,hsz] using hQ
end
section
variable {K:Frag}
theorem Zoh {o:Expr} {apos pos}{pl:Sem Bool}{Q:QV} (G:Gnd K B)
  (h:EV (model PW W0) A E B env o m hp λl hpY=>∃ d kvs,l = .ref d/\hpY d=some (.dict kvs)/\d≠env.locals/\∀ v,hpY v=none->v≠env.locals->Q (.ref v) (hpY.set v (.obj (Zdw d))))
  (hc:autoParam (eval (.Call (.Attribute o (PySem.Str.ofString "keys") apos) [] [] pos) env=(do
   let ov <-eval o env
   standAt apos.atName
   let (f,first) <-holding [ov] (getMethod ov (PySem.Str.ofString "keys") pl)
   callWith pos f first (backTo pos (starEach [] env)) [])) rB) :
  EV (model PW W0) A E B env (.Call (.Attribute o (PySem.Str.ofString "keys") apos) [] [] pos) m hp Q:=λs r=>by
 refine MethodCall_ (pl:=pl) (h.use r λu sY l hpY rY leY hu x=>?_) hc;obtain ⟨d,kvs,rfl,hd,hL,q⟩:=x;simp only[VR]at hu;subst hu;obtain ⟨ps,hps,hk⟩:=rY.dict hd hL;have hm:=hps PW W0;refine getMethod_builtin hm.typeIs F.plainAttrs_dict F.slot_dict_keys F.type_dict_keys hm.mapOf.noDict ?_;refine method_meetsIn F.slot_dict_keys F.entry_dict_keys rfl (PySem.evalArgs_none ⟨rfl,hm.typeIs,F.args_dict_keys_1 _,_,Zdv (intKind PW W0) d (rY.notSys G (by rw[Hp.sn _ _ hL];exact hd)),⟨ps,hm⟩,?_⟩);have n:=rY.newAt (Zdw d) (.obj (Zdw d)) ⟨Heap.get?_push_size _ rfl,Za8 λxs n e=>by cases e⟩;exact mkV (av:=.ref _) n.1 (leY.trans n.2.2.2) VR_ref (q _ n.2.1 n.2.2.1)
noncomputable abbrev Zq7 (d:Addr) (n ep i:Nat) (o:Obj):Prop:=o.cls = .type "dict_keyiterator" /\ o.data = .fields #[.ref d,.int i 0,.int n 0,.int ep 0]
noncomputable abbrev Zqa (PW:Program) (W0:World) (A:Around) (B:Shared) (env:Env) (ta:Expr) (body:List Stmt) (m:Loc) (hpY:Hp) (Q:QX) (d:Addr) (kvs:List (Int × AV)) (vw it:Addr) (od:Obj):Prop:=
 ∃ I:Nat->Loc->Hp->Prop,
   (∀ ob,I 0 m (((hpY.set vw (.obj (Zdw d))).set d (.obj od)).set it (.obj ob)))/\(∀ i m₂ hp₂ ob,I i m₂ hp₂->I i m₂ (hp₂.set it (.obj ob)))/\(∀ i m₂ hp₂,I i m₂ hp₂->hp₂ d=some (.obj od)) /\
   (∀ i k x m₂ hp₂ ob,kvs[i]?=some (k,x)->I i m₂ hp₂->hp₂ it=some (.obj ob)->ASG (model PW W0) A (λ_ _=>False) B env ta (.int k) m₂ hp₂ λm₃ hp₃=>EXs (model PW W0) A (λ_ _=>False) B env body m₃ hp₃ λfl mj hpj=>
    (fl = .next\/fl = .cont)/\I (i + 1) mj hpj/\hpj it=some (.obj ob)) /\
   (∀ m₂ hp₂,I kvs.length m₂ hp₂->Q .next m₂ ((hp₂.set d (.dict kvs)).del it))
theorem Zip {ta o:Expr}{body:List Stmt} {apos cpos pos}{pl:Sem Bool}{Q:QX} (G:Gnd K B) (hh:A.handled=none)
  (h:EV (model PW W0) A E B env o m hp λv hpY=>∃ d kvs,v = .ref d/\hpY d=some (.dict kvs)/\d≠env.locals/\∀ vw it od,hpY vw=none->vw≠env.locals->vw≠d->hpY it=none->it≠env.locals->it≠d->it≠vw->Zqa PW W0 A B env ta body m hpY Q d kvs vw it od)
  (hc:autoParam (eval (.Call (.Attribute o (PySem.Str.ofString "keys") apos) [] [] cpos) env=(do
   let ov <-eval o env
   standAt apos.atName
   let (f,first) <-holding [ov] (getMethod ov (PySem.Str.ofString "keys") pl)
   callWith cpos f first (backTo cpos (starEach [] env)) [])) rB)
  (hs:∀ x,foldedSetIterable (.Call (.Attribute o (PySem.Str.ofString "keys") apos) [] [] cpos) env x=pure x:=by intro _;rfl) :
  EX (model PW W0) A E B env (.For ta (.Call (.Attribute o (PySem.Str.ofString "keys") apos) [] [] cpos) body [] pos) m hp Q:=λs r=>by
 refine wpAny_For ((Zoh (Q:=λvv hp₂=>∃ d kvs hpY vw,vv = .ref vw/\hpY d=some (.dict kvs)/\d≠env.locals/\hpY vw=none/\vw≠env.locals/\hp₂=hpY.set vw (.obj (Zdw d))/\∀ it od,hpY it=none->it≠env.locals->it≠d->it≠vw->Zqa PW W0 A B env ta body m hpY Q d kvs vw it od) G (h.mono λv hpY x=>by
  obtain ⟨d,kvs,e1,e2,e3,q⟩:=x
  exact ⟨d,kvs,e1,e2,e3,λvw hv hvL=>⟨d,kvs,hpY,vw,rfl,e2,e3,hv,hvL,rfl,λit od h1 h2 h3 h4=>q vw it od hv hvL (λe=>by rw[e,e2]at hv;cases hv) h1 h2 h3 h4⟩⟩) hc).use r λu sY vv hp₂ rY leY hu x=>?_) hs
 obtain ⟨d,kvs,hpY,vw,rfl,hd,hL,hvw,hvL,rfl,q⟩:=x;simp only[VR]at hu;subst hu;have hvd:vw≠d:=λe=>by rw[e,hd]at hvw;cases hvw
 have hd2:(hpY.set vw (.obj (Zdw d))) d=some (.dict kvs):=by rw[Hp.sn _ _ (Ne.symm hvd)];exact hd
 obtain ⟨ps,ep,od,D⟩:=rY.dex hd2 hL;refine Zjk (knd:=intKind PW W0) (d:=d) (kvs:=ps) (ep:=ep) (rY.at (Hp.ss ..) hvL).1 D.hat ?_;obtain ⟨rel1,hit,hiL,le2⟩:=(rY.exact hd2 hL D.hod D.no).newAt { cls:=.type "dict_keyiterator",data:=.fields #[.ref d,.int 0 0,.int ps.length 0,.int ep 0] } (.obj { cls:=.type "dict_keyiterator",data:=.fields #[.ref d,.int 0 0,.int ps.length 0,.int ep 0] }) ⟨Heap.get?_push_size _ rfl,Za8 λxs n e=>by cases e⟩;have hitd:sY.heap.objs.size≠d:=λe=>by rw[e,Hp.ss]at hit;cases hit
 have hitv:sY.heap.objs.size≠vw:=λe=>by rw[e,Hp.sn _ _ hvd,Hp.ss]at hit;cases hit
 have hit1:hpY sY.heap.objs.size=none:=by rw[Hp.sn _ _ hitd,Hp.sn _ _ hitv]at hit;exact hit
 generalize sY.heap.objs.size=it at *;obtain ⟨I,i0,iset,idd,iturn,ifin⟩:=q it od hit1 hiL hitd hitv;have hpl:ps.length=kvs.length:=D.kv.length;refine Zdo (E₁:=λ_ _=>False) (n:=kvs.length) (el:=λi=>.int (kvs.getD i (0,.none)).1) (st:=λi ob=>Zq7 d ps.length ep i ob) (I:=I) (Q:=λaf m' hp'=>hp' d=some (.obj od)/\Q af m' (hp'.set d (.dict kvs))) hiL (λi ob x=>Za8 λxs n e=>by rw[x.2]at e;cases e)
  (λi m₂ hp₂ s' ob hi hI hob hst r' E' W k=>?_) (λm₂ hp₂ s' ob hI hob hst r' E' W k=>?_) iset (λi m₂ hp₂ ob hi hI hob=>?_) (λm₂ hp₂ hI=>⟨by rw[Hp.del_ne _ (Ne.symm hitd)];exact idd _ _ _ hI,by rw[<-Hp.del_set _ _ (Ne.symm hitd)];exact ifin _ _ hI⟩) (s₀:=sY) (λfl af m' hp' s' r' le' hf' q=>?_) (i0 _) (Hp.ss ..) ⟨rfl,rfl⟩ rel1 le2 (λ_ _ x=>⟨_,x.1,rfl⟩) (λ_ _ x=>x.elim)
 .obtain ⟨k',x,v,e1,e2,e3,hv⟩:=D.at hi;have O:=r'.at (idd _ _ _ hI) hL;refine wpAny_pyNext_dict_item (knd:=intKind PW W0) ⟨ob,(r'.at hob hiL).1,hst.1,hst.2⟩ (D.later O.1).1 e2 λkey h' hkey hit' hs'=>?_;obtain ⟨ob',ho',hc',hd'⟩:=hit';obtain ⟨tk',rfl⟩:=Zjn hkey;exact k _ h' s'.toks ob' (by rw[List.getD_eq_getElem?_getD,e1];exact VR_int) ho' ⟨hc',hd'⟩ hs'
 .have O:=r'.at (idd _ _ _ hI) hL;exact wpAny_pyNext_dict_end (knd:=intKind PW W0) hh ⟨ob,(r'.at hob hiL).1,hst.1,by rw[hst.2,hpl]⟩ (D.later O.1).1 (by rw[List.getElem?_eq_none];exact Nat.le_of_eq hpl) λh' hx=>k h' s'.toks hx
 .refine (iturn i _ (kvs.getD i (0,.none)).2 m₂ hp₂ _ (by rw[List.getD_eq_getElem?_getD,List.getElem?_eq_getElem hi];rfl) hI hob).mono λm₃ hp₃ x=>x.mono λfl mj hpj y=>?_;obtain ⟨hf,y1,y2⟩:=y;rcases hf with rfl | rfl <;> exact ⟨y1,y2⟩
 .obtain ⟨hd3,q⟩:=q;exact ⟨af,m',_,r'.back (o:=.dict kvs) hd3 hL ⟨ps,(D.later (r'.at hd3 hL).1).2,D.kv.1,D.kv.2.mono le'⟩,leY.trans le',hf',q⟩
theorem Zoa {f:Addr}{o:Obj}{Q:Bool->Hp->Prop} (hf:hp f=some (.obj o)) (hfL:f≠env.locals) (hc:o.cls = .type "function") (h:Q true hp):TRU (model PW W0) A E B env m (.ref f) hp Q:=λs u r hu=>by
 simp only[VR]at hu;subst hu;have hT:s.TypeIs (.ref f) "function" := ⟨o,(r.at hf hfL).1,hc⟩;unfold truthy;have n1:typeLookup (.type "function") "__bool__" = pure none:=by rw[typeLookup_type,builtinLookup_eq_fast];kernel_rfl
 have n2:typeLookup (.type "function") "__len__" = pure none:=by rw[typeLookup_type,builtinLookup_eq_fast];kernel_rfl
 refine wB (wpAny_callSpecial?_none (name:=PySem.Str.ofString "__bool__") hT n1 ?_);refine wB (wpAny_specialOf (name:=PySem.Str.ofString "__len__") hT n2 ?_);exact wP ⟨hp,r,.refl _,h⟩
end
noncomputable abbrev KW (W0:World):Frag:=KP0 PW W0.params
noncomputable abbrev mS (i:Nat):Stmt:=inS (topS PW 5) i
noncomputable abbrev fdS (i:Nat) (name:String) (dflt:Value) (tok code:Nat):FuncData:=fnD (mS i) (S name) dflt .none tok (.str (S "cpy313.difflib") 194) none (.ref code) .none []
noncomputable def Zm2:FuncData:=fdS 1 "SequenceMatcher.__init__" (.ref 153) 416 159
noncomputable def Zjw:FuncData:=fdS 2 "SequenceMatcher.set_seqs" .none 426 166
noncomputable def Zpu:FuncData:=fdS 3 "SequenceMatcher.set_seq1" .none 435 173
noncomputable def Zm1:FuncData:=fdS 4 "SequenceMatcher.set_seq2" .none 444 180
noncomputable def Zbq:FuncData:=fdS 5 "SequenceMatcher.__chain_b" .none 0 187
noncomputable def Za2:FuncData:=fdS 6 "SequenceMatcher.find_longest_match" (.ref 189) 490 195
theorem Zrc (W0:World):(KW W0).lookup 160=some ⟨.type "function",none,.func Zm2,#[]⟩:=rfl
theorem Zq8 (W0:World):(KW W0).lookup 167=some ⟨.type "function",none,.func Zjw,#[]⟩:=rfl
theorem Zra (W0:World):(KW W0).lookup 174=some ⟨.type "function",none,.func Zpu,#[]⟩:=rfl
theorem Zq9 (W0:World):(KW W0).lookup 181=some ⟨.type "function",none,.func Zm1,#[]⟩:=rfl
theorem Zpm (W0:World):(KW W0).lookup 188=some ⟨.type "function",none,.func Zbq,#[]⟩:=rfl
theorem kFlm (W0:World):(KW W0).lookup 196=some ⟨.type "function",none,.func Za2,#[]⟩:=rfl
theorem clsS (W0:World):Cls (KW W0) 242:=⟨by kernel_rfl,by kernel_rfl,by kernel_rfl,by kernel_rfl,by kernel_rfl⟩
theorem Zpc (W0:World):makesIn (KW W0) 242=true:=by kernel_rfl
theorem Zjb (W0:World):attrNames.all (λn=>findIn (KW W0) (.ref 242) n == some none && takerIn (KW W0) 242 n == some none)=true:=by kernel_rfl
theorem Zmu (W0:World) {n:PySem.Str} (h:n ∈ attrNames):findIn (KW W0) (.ref 242) n=some none:=by have:=List.all_eq_true.mp (Zjb W0) n h;rw[Bool.and_eq_true]at this;exact eq_of_beq this.1
theorem Znp (W0:World) {n:PySem.Str} (h:n ∈ attrNames):takerIn (KW W0) 242 n=some none:=by have:=List.all_eq_true.mp (Zjb W0) n h;rw[Bool.and_eq_true]at this;exact eq_of_beq this.2
theorem Zka:bootBuiltins (PySem.Str.ofString "set")=some (.type "set"):=by boot_fast
theorem Zhm:bootBuiltins (PySem.Str.ofString "enumerate")=some (.type "enumerate"):=by boot_fast
theorem Zaz:bootBuiltins (PySem.Str.ofString "len")=some (.builtin "len"):=by boot_fast
theorem Zbr:bootBuiltins (PySem.Str.ofString "range")=some (.type "range"):=by boot_fast
theorem Zkb:bootBuiltins (PySem.Str.ofString "max")=some (.builtin "max"):=by boot_fast
theorem Zd0:bootBuiltins (PySem.Str.ofString "min")=some (.builtin "min"):=by boot_fast
theorem Zms (W0:World):nsIn (KW W0) mainGlobals (S "set")=some none:=by kernel_rfl
theorem Zja (W0:World):nsIn (KW W0) mainGlobals (S "enumerate")=some none:=by kernel_rfl
theorem Zbc (W0:World):nsIn (KW W0) mainGlobals (S "len")=some none:=by kernel_rfl
theorem Zb5 (W0:World):nsIn (KW W0) mainGlobals (S "range")=some none:=by kernel_rfl
theorem Zmt (W0:World):nsIn (KW W0) mainGlobals (S "max")=some none:=by kernel_rfl
theorem Zfo (W0:World):nsIn (KW W0) mainGlobals (S "min")=some none:=by kernel_rfl
theorem g_SM (W0:World):nsIn (KW W0) mainGlobals (S "SequenceMatcher")=some (some (.ref 242)):=by kernel_rfl
theorem Znz (W0:World):nsIn (KW W0) mainGlobals (S "Match")=some (some (.ref 135)):=by kernel_rfl
noncomputable def Zdn:FuncData:=fnD (topS PW 7) (S "_law_growth") .none .none 0 (.str (S "law_dm0058_09") 575) none (.ref 252) .none []
theorem Zgr (W0:World):(KW W0).lookup 253=some ⟨.type "function",none,.func Zdn,#[]⟩:=rfl
theorem Zhj (W0:World):nsIn (KW W0) mainGlobals (S "_law_growth")=some (some (.ref 253)):=by kernel_rfl
noncomputable def Ze0:FuncData:=fnD (topS PW 8) (S "_law_due") .none .none 0 (.str (S "law_dm0058_09") 575) none (.ref 259) .none []
theorem kDue (W0:World):(KW W0).lookup 260=some ⟨.type "function",none,.func Ze0,#[]⟩:=rfl
theorem Zre (W0:World):nsIn (KW W0) mainGlobals (S "_law_due")=some (some (.ref 260)):=by kernel_rfl
noncomputable def Zej:FuncData:=fnD (topS PW 9) (S "_law_told") .none .none 0 (.str (S "law_dm0058_09") 575) none (.ref 266) .none []
theorem Zpl (W0:World):(KW W0).lookup 267=some ⟨.type "function",none,.func Zej,#[]⟩:=rfl
theorem Zpn (W0:World):nsIn (KW W0) mainGlobals (S "_law_told")=some (some (.ref 267)):=by kernel_rfl
noncomputable def fdLaw:FuncData:=fnD (topS PW 10) (S "law") .none .none 0 (.str (S "law_dm0058_09") 575) none (.ref 271) .none []
theorem kLaw (W0:World):(KW W0).lookup 272=some ⟨.type "function",none,.func fdLaw,#[]⟩:=rfl
noncomputable def Zpv:FuncData:=fnD (inS (topS PW 3) 4) (S "Match.__new__") .none .none 283 (.str (S "cpy313.difflib") 194) none (.ref 81) .none []
theorem Zrb (W0:World):(KW W0).lookup 82=some ⟨.type "function",none,.func Zpv,#[]⟩:=rfl
theorem Zl7:bootBuiltins (PySem.Str.ofString "list")=some (.type "list"):=by boot_fast
theorem Zno (W0:World):nsIn (KW W0) mainGlobals (S "list")=some none:=by kernel_rfl
theorem Zj9:bootBuiltins (PySem.Str.ofString "tuple")=some (.type "tuple"):=by boot_fast
theorem Zlk (W0:World):nsIn (KW W0) mainGlobals (S "tuple")=some none:=by kernel_rfl
theorem Zf7 {h:Heap}{a b c:AV}{vs:List Value} (x:VRs h [a,b,c] vs):∃ u v W0,vs=[u,v,W0]/\VR h a u/\VR h b v/\VR h c W0:=by simp only[VRs]at x;obtain ⟨v,r,rfl,h1,u,r',rfl,h2,z,r'',rfl,h3,rfl⟩:=x;exact ⟨_,_,_,rfl,h1,h2,h3⟩
theorem Zhp {h:Heap}{a b c d:AV}{vs:List Value} (x:VRs h [a,b,c,d] vs):∃ u v W0 z,vs=[u,v,W0,z]/\VR h a u/\VR h b v/\VR h c W0/\VR h d z:=by simp only[VRs]at x;obtain ⟨v,r,rfl,h1,u,r',rfl,h2,z,r'',rfl,h3,y,r''',rfl,h4,rfl⟩:=x;exact ⟨_,_,_,_,rfl,h1,h2,h3,h4⟩
section
theorem Zb7 {x dx:Addr}{ma:Loc}{name:PySem.Str}{u:AV} {p1 p2:Pos}{Q:QV} (G:Gnd (KW W0) B) (hm:m (S "self")=some (.ref x)) (I:Ins hp env.locals x dx 242 ma) (ha:ma name=some u) (h:Q u hp) (hin:name ∈ attrNames:=by decide) (hu:∀ n,u≠.bi n:=by intro _ e;cases e)
  (hk:autoParam (env.scope.kind = .function) rB) (hl:autoParam (env.kindOf (S "self")=some .local) rB):EV (model PW W0) A E B env (.Attribute (.Name (S "self") p1) name p2) m hp Q:=
 Zks G (clsS W0) (Zmu W0 hin) (Zaa hm ⟨x,dx,ma,u,rfl,I,ha,hu,h⟩ hk hl)
theorem Zay {x dx:Addr}{ma:Loc}{name:PySem.Str}{u:AV} {p1 p2:Pos}{Q:Loc->Hp->Prop} (G:Gnd (KW W0) B) (hm:m (S "self")=some (.ref x)) (I:Ins hp env.locals x dx 242 ma) (h:Q m (hp.set dx (.atr (upd ma name u)))) (hin:name ∈ attrNames:=by decide)
  (hk:autoParam (env.scope.kind = .function) rB) (hl:autoParam (env.kindOf (S "self")=some .local) rB):ASG (model PW W0) A E B env (.Attribute (.Name (S "self") p1) name p2) u m hp Q:=
 Zmq G (clsS W0) (Znp W0 hin) hin (Zaa hm ⟨x,dx,ma,rfl,I,h⟩ hk hl)
end
noncomputable def Hp.cut (hp:Hp) (L1 L2:Addr):Hp:=λz=>if z=L1\/z=L2 then none else hp z
theorem Hp.cut_eq {hp:Hp} {L1 L2 z:Addr} (h1:z≠L1) (h2:z≠L2):hp.cut L1 L2 z=hp z:=by simp[Hp.cut,h1,h2]
theorem Zes {env:Env}{m:Loc}{L:Addr}{Q:QV}{fl:AF}{m':Loc}{hp':Hp} (hl:hp' env.locals=some (.ns m)) (q:Q (Zd6 fl) (hp'.cut env.locals L)):RET L env m Q fl m' hp':=by
 refine ⟨hp'.cut env.locals L,λz o hz=>?_,by simp[Hp.cut],q⟩;by_cases h1:z=env.locals
 .subst h1;rw[Hp.ss]at hz;rw[hl];exact hz
 .rw [Hp.sn _ _ h1]at hz;by_cases h2:z=L
  .simp [Hp.cut,h2]at hz
  .rw [Hp.cut_eq h1 h2]at hz;exact hz
noncomputable def idxN (bs:List Int) (k:Int):List Nat:=(List.range bs.length).filter (λi=>bs[i]? == some k)
noncomputable def idxs (bs:List Int) (k:Int):List AV:=(idxN bs k).map λ(i:Nat)=>AV.int (i:Int)
theorem Zcb (bs:List Int) (x k:Int):idxN (bs ++ [x]) k=idxN bs k ++ (if x=k then [bs.length] else []):=by
 unfold idxN;rw[List.length_append,List.length_singleton,List.range_succ,List.filter_append];congr 1
 .apply List.filter_congr;intro i hi;rw[List.mem_range]at hi;rw[List.getElem?_append_left hi]
 .by_cases h:x=k
  .simp [h]
  .simp [h]
theorem idxs_snoc (bs:List Int) (x k:Int):idxs (bs ++ [x]) k=idxs bs k ++ (if x=k then [.int bs.length] else []):=by unfold idxs;rw[Zcb,List.map_append];split <;> simp
theorem Zlw (bs:List Int) (k:Int):(idxN bs k).length<=bs.length:=by unfold idxN;exact Nat.le_trans (List.length_filter_le _ _) (by simp)
structure B2J (hb hp:Hp) (L d:Addr) (kvs:List (Int × AV)) (bs:List Int):Prop where
 di:hp d=some (.dict kvs)
 dL:d≠L
 no:∀ k,dget kvs k=none->idxN bs k=[]
 yes:∀ k v,dget kvs k=some v->∃ a,v = .ref a/\hp a=some (.list (idxs bs k))/\a≠L/\hb a=none
 inj:∀ k k' a,dget kvs k=some (.ref a)->dget kvs k'=some (.ref a)->k=k'
 len:kvs.length<=bs.length
 nd:(kvs.map (·.1)).Nodup
 ne:∀ k v,dget kvs k=some v->idxN bs k≠[]
theorem Zcc (kvs:List (Int × AV)) (k:Int) (v:AV) (k':Int) (h:dget kvs k=none):dget (kvs ++ [(k,v)]) k'=if k'=k then some v else dget kvs k':=by
 unfold dget at *;rw[List.find?_append];by_cases e:k'=k
 .subst e;have:kvs.find? (λkv=>decide (kv.1=k'))=none:=by
   cases hf:kvs.find? (λkv=>decide (kv.1=k')) with
   | none=>rfl
   | some x=>rw[hf]at h;cases h
  rw[this];simp
 .rw [if_neg e];cases hf:kvs.find? (λkv=>decide (kv.1=k')) with
  | some x=>rfl
  | none=>simp[Ne.symm e]
theorem Zf2 {kvs:List (Int × AV)}{k:Int} (h:dget kvs k=none):k ∉ kvs.map (·.1):=λhm=>by obtain ⟨p,hp,e⟩:=List.mem_map.mp hm;unfold dget at h;rw[Option.map_eq_none_iff,List.find?_eq_none]at h;exact h p hp (by simpa using e)
theorem VRs.nil {h:Heap}:VRs h [] []:=by simp only[VRs]
theorem VRs.mk {h:Heap}{a:AV}{v:Value}{l:List AV}{r:List Value} (x:VR h a v) (y:VRs h l r):VRs h (a :: l) (v :: r):=by simp only[VRs];exact ⟨_,_,rfl,x,y⟩
theorem Zhq {h:Heap}{a b c d e:AV}{vs:List Value} (x:VRs h [a,b,c,d,e] vs):∃ u v W0 z y,vs=[u,v,W0,z,y]/\VR h a u/\VR h b v/\VR h c W0/\VR h d z/\VR h e y:=by simp only[VRs]at x;obtain ⟨v,r,rfl,h1,u,r',rfl,h2,z,r'',rfl,h3,y,r''',rfl,h4,q,r4,rfl,h5,rfl⟩:=x;exact ⟨_,_,_,_,_,rfl,h1,h2,h3,h4,h5⟩
theorem if_t {X Y:Prop} (h:X):if true=true then X else Y:=h
theorem if_f {X Y:Prop} (h:Y):if false=true then X else Y:=by rw[if_neg Bool.false_ne_true];exact h
theorem Znv {X Y:Prop}{b:Bool} (e:b=true) (h:X):if b=true then X else Y:=by rw[if_pos e];exact h
theorem Znw {X Y:Prop}{b:Bool} (e:b=false) (h:Y):if b=true then X else Y:=by subst e;exact if_f h
theorem Zb1 {X Y p:Prop} [Decidable p] (c:p) (h:X):if decide p=true then X else Y:=Znv (decide_eq_true c) h
theorem Zbu {X Y p:Prop} [Decidable p] (c:¬ p) (h:Y):if decide p=true then X else Y:=Znw (decide_eq_false c) h
noncomputable def Zmx:Stmt->List Stmt × List Stmt × Expr
 | .For t _ b e _=>(b,e,t)
 | .While t b e _=>(b,e,t)
 | .If t b e _=>(b,e,t)
 | .Assign _ v _=>([],[],v)
 | _=>([],[],.Name (S "") ⟨0,0,0,0⟩)
noncomputable def kids (s:Stmt):List Stmt:=(Zmx s).1
noncomputable def kidT (s:Stmt):Expr:=(Zmx s).2.2
theorem updO {ns:List String}{a y:String}{v:AV}{m:Loc}{r:Option AV} (hy:y ∉ ns) (h:m (S y)=r) (hm:a ∈ ns:=by decide):upd m (S a) v (S y)=r:=by rw[ug,if_neg (λe:y=a=>hy (by rw[e];exact hm))];exact h
section
variable {A:Around}{E:ET}{B:Shared}{env:Env}{m:Loc}{hp hb:Hp}
theorem Zh7 {L it en d:Addr}{kvs:List (Int × AV)}{bs:List Int}{x:Int} {o1 o2:Obj}{m:Loc}{tp:Pos}{KK:QX} (G:Gnd (KW W0) B) (hh:A.handled=none) (hd:m (S "b2j")=some (.ref d)) (R:B2J hb hp L d kvs bs) (hle:Hp.Le hb hp) (hbd0:hb d=none) (hlen:bs.length<=4000)
  (h1:hp it=some (.obj o1)) (h2:hp en=some (.obj o2)) (hK:∀ mj hpj,(∀ y,y ≠ "i" -> y ≠ "elt" -> y ≠ "indices" -> mj (S y)=m (S y))->hpj it=some (.obj o1)->hpj en=some (.obj o2)->Hp.Le hb hpj->(∃ kvs',B2J hb hpj L d kvs' (bs ++ [x]))->KK .next mj hpj) :
  ASG (model PW W0) A (λ_ _=>False) B (callEnv Zbq L 188) (kidT ((Zbg (mS 5)).getD 2 (.Pass tp))) (.tup [.int bs.length,.int x]) m hp λm₃ hp₃=>EXs (model PW W0) A (λ_ _=>False) B (callEnv Zbq L 188) (kids ((Zbg (mS 5)).getD 2 (.Pass tp))) m₃ hp₃ KK:=by
 refine Zci hh rfl rfl rfl (Zam (Zak (Zam (Zak (Zav ?_)))))
 try dsimp only
 generalize hm1:upd (upd m _ _) _ _=m1;have g1:m1 (S "i")=some (.int bs.length):=by subst hm1;(first | assumption | rfl)
 have g2:m1 (S "elt")=some (.int x):=by subst hm1;(first | assumption | rfl)
 have g3:m1 (S "b2j")=some (.ref d):=by subst hm1;(first | assumption | rfl)
 have g4:∀ y,y ≠ "i" -> y ≠ "elt" -> y ≠ "indices" -> m1 (S y)=m (S y):=λy a b c=>by subst hm1;simp only[ug,a,b,if_false]
 clear hm1;have hidl:(idxs bs x).length<=4000:=by unfold idxs;rw[List.length_map];exact Nat.le_trans (Zlw _ _) hlen
 have hlk:=R.len;refine Zac (Zaq (Zc0 F.slot_dict_setdefault F.type_dict_setdefault F.plainAttrs_dict (Zaa g3 ⟨d,rfl,Zew R.di R.dL,Zab (Zaa g2 (Zab (Zbt (Zae ⟨sz rfl,λe he heL=>Zae ?_⟩))))⟩)));have hde:d≠e:=Hp.ne_of R.di he;have hdi:(hp.set e (.list [])) d=some (.dict kvs):=Hp.snt hde R.di;have hebn:hb e=none:=hle.none he;have hie:it≠e:=Hp.ne_of h1 he;have hne:en≠e:=Hp.ne_of h2 he;have hid:it≠d:=λh=>by rw[h,R.di]at h1;cases h1
 have hnd:en≠d:=λh=>by rw[h,R.di]at h2;cases h2
 refine Zed G hdi R.dL (by lia) ?_;cases hg:dget kvs x with
 | none=>
  rw[show ((none:Option AV).isSome)=false from rfl,if_neg Bool.false_ne_true];have hld:((hp.set e (.list [])).set d (.dict (kvs ++ [(x,.ref e)]))) e=some (.list []):=Hp.snt (Ne.symm hde) (Hp.ss ..);refine Zac (Zcg (Zgf (Zaa (v:=.ref e) (by show upd m1 (S "indices") ((none:Option AV).getD (.ref e)) (S "indices")=_;simp only[ug,if_true];rfl) ⟨e,_,rfl,hld,heL,?_⟩)));refine Zab (Zaa (v:=.int bs.length) (by first | assumption | rfl) (Zae ⟨_,_,rfl,hld,sz rfl,by simp,by simp,by simp,?_⟩));refine Zal (hK _ _ (λy a b c=>by simp only[ug,c,if_false];exact g4 y a b c) ?_ ?_ ?_ ⟨kvs ++ [(x,.ref e)],?_⟩)
  .exact Hp.snt hie (Hp.snt hid (Hp.snt hie h1))
  .exact Hp.snt hne (Hp.snt hnd (Hp.snt hne h2))
  .have hbd:hb d=none:=hbd0;exact ((hle.set hebn _).set hbd _).set hebn _
  .have hne0:=R.no x hg
   refine ⟨Hp.snt hde (Hp.ss ..),R.dL,λk hk=>?_,λk v hk=>?_,λk k' a hk hk'=>?_,by simp;omega,by rw[List.map_append];exact List.nodup_append.mpr ⟨R.nd,by simp,λa ha b hb e=>by
    rw[List.map_cons,List.map_nil,List.mem_singleton]at hb
    subst hb;exact Zf2 hg (e ▸ ha)⟩,λk v hk=>?_⟩
   rotate_left 3
   .rw [Zcc _ _ _ _ hg]at hk;rw[Zcb];by_cases e':k=x
    .rw [if_pos e'.symm];simp
    .rw [if_neg e']at hk;exact λh=>R.ne k v hk (List.append_eq_nil_iff.mp h).1
   .rw [Zcc _ _ _ _ hg]at hk;by_cases e':k=x
    .rw [if_pos e']at hk;cases hk
    .rw [if_neg e']at hk;rw[Zcb,R.no k hk,if_neg (Ne.symm e')];rfl
   .rw [Zcc _ _ _ _ hg]at hk;by_cases e':k=x
    .rw [if_pos e']at hk;cases hk;refine ⟨e,rfl,?_,heL,hebn⟩;rw[Hp.ss,e',idxs_snoc,if_pos rfl];unfold idxs;rw[hne0];rfl
    .rw [if_neg e']at hk;obtain ⟨a,rfl,ha,haL,hba⟩:=R.yes k v hk;have hae:a≠e:=Hp.ne_of ha he;have had:a≠d:=λh=>by rw[h,R.di]at ha;cases ha
     refine ⟨a,rfl,?_,haL,hba⟩;rw[Hp.sn _ _ hae,Hp.sn _ _ had,Hp.sn _ _ hae,ha,idxs_snoc,if_neg (Ne.symm e')];simp
   .rw [Zcc _ _ _ _ hg]at hk hk';by_cases e1:k=x
    .by_cases e2:k'=x
     .rw [e1,e2]
     .rw [if_pos e1]at hk;rw[if_neg e2]at hk';cases hk;obtain ⟨a',ea,ha,_⟩:=R.yes k' _ hk';cases ea;rw[he]at ha;cases ha
    .rw [if_neg e1]at hk;by_cases e2:k'=x
     .rw [if_pos e2]at hk';cases hk';obtain ⟨a',ea,ha,_⟩:=R.yes k _ hk;cases ea;rw[he]at ha;cases ha
     .rw [if_neg e2]at hk';exact R.inj k k' a hk hk'
 | some v=>
  obtain ⟨a,rfl,ha,haL,hba⟩:=R.yes x v hg;rw[show ((some (AV.ref a)).isSome)=true from rfl,if_pos rfl];have hae:a≠e:=Hp.ne_of ha he;have had:a≠d:=λh=>by rw[h,R.di]at ha;cases ha
  have hia:it≠a:=λh=>by rw[h,ha]at h1;cases h1
  have hna:en≠a:=λh=>by rw[h,ha]at h2;cases h2
  have hld:(hp.set e (.list [])) a=some (.list (idxs bs x)):=Hp.snt hae ha;refine Zac (Zcg (Zgf (Zaa (v:=.ref a) (by show upd m1 (S "indices") ((some (AV.ref a)).getD (.ref e)) (S "indices")=_;simp only[ug,if_true];rfl) ⟨a,_,rfl,hld,haL,?_⟩)));refine Zab (Zaa (v:=.int bs.length) (by first | assumption | rfl) (Zae ⟨_,_,rfl,hld,sz' (by (exact Nat.le_trans ‹_› (by decide))),by simp,by simp,by simp,?_⟩));refine Zal (hK _ _ (λy a b c=>by simp only[ug,c,if_false];exact g4 y a b c) ?_ ?_ ?_ ⟨kvs,?_⟩)
  .exact Hp.snt hia (Hp.snt hie h1)
  .exact Hp.snt hna (Hp.snt hne h2)
  .exact (hle.set hebn _).set hba _
  .refine ⟨Hp.snt (Ne.symm had) hdi,R.dL,λk hk=>?_,λk v hk=>?_,R.inj,by simp;(exact F20 0x680758750 0x11 rfl hlk),R.nd,λk v hk h=>R.ne k v hk (List.append_eq_nil_iff.mp ((Zcb _ _ _).symm.trans h)).1⟩
   .have e':k≠x:=λe=>by rw[e,hg]at hk;cases hk
    rw[Zcb,R.no k hk,if_neg (Ne.symm e')];rfl
   .by_cases e':k=x
    .subst e';rw[hg]at hk;cases hk;refine ⟨a,rfl,?_,haL,hba⟩;rw[Hp.ss,idxs_snoc,if_pos rfl]
    .obtain ⟨c,rfl,hc,hcL,hbc⟩:=R.yes k v hk;have hca:c≠a:=λh=>e' (by rw[h]at hk;exact R.inj k x a hk hg);have hce:c≠e:=Hp.ne_of hc he;refine ⟨c,rfl,?_,hcL,hbc⟩;rw[Hp.sn _ _ hca,Hp.sn _ _ hce,hc,idxs_snoc,if_neg (Ne.symm e')];simp
end
structure JD (hp:Hp) (L d:Addr) (J:Int->List Nat):Prop where
 ex:∃ kvs,hp d=some (.dict kvs)/\d≠L/\(∀ k,dget kvs k=none->J k=[])/\∀ k v,dget kvs k=some v->∃ a,v = .ref a/\hp a=some (.list ((J k).map λ(i:Nat)=>AV.int (i:Int)))/\a≠L/\J k≠[]
theorem JD.le {hp hp':Hp}{L d:Addr}{J:Int->List Nat} (R:JD hp L d J) (le:Hp.Le hp hp'):JD hp' L d J:=by obtain ⟨kvs,h1,h2,h3,h4⟩:=R.ex;exact ⟨kvs,le _ _ h1,h2,h3,λk v hk=>by obtain ⟨a,e,ha,haL⟩:=h4 k v hk;exact ⟨a,e,le _ _ ha,haL⟩⟩
theorem JD.move {hp hp':Hp}{L L' d:Addr}{J:Int->List Nat} (R:JD hp L d J) (h:∀ z o,hp z=some o->(∀ m,o≠.ns m)->z≠L->hp' z=some o/\z≠L'):JD hp' L' d J:=by obtain ⟨kvs,h1,h2,h3,h4⟩:=R.ex;have x:=h _ _ h1 (by simp) h2;refine ⟨kvs,x.1,x.2,h3,λk v hk=>?_⟩;obtain ⟨a,e,ha,haL⟩:=h4 k v hk;have y:=h _ _ ha (by simp) haL.1;exact ⟨a,e,y.1,y.2,haL.2⟩
inductive Src (B:Shared) (hp:Hp) (L:Addr):AV->List Int->Prop where
 | list {bA:Addr}{bs:List Int} (h:Lst B hp L bA (bs.map .int)):Src B hp L (.ref bA) bs
 | emp:Src B hp L (.str (S "")) []
theorem Src.call {B:Shared}{hp:Hp}{L L':Addr}{m:Loc}{v:AV}{bs:List Int} (x:Src B hp L v bs) (h:hp L'=none):Src B (hp.set L (.ns m)) L' v bs:=by
 cases x with
 | list y=>exact .list (y.call h)
 | emp=>exact .emp
theorem Src.put {B:Shared}{hp:Hp}{L b:Addr}{o:AO}{v:AV}{bs:List Int} (x:Src B hp L v bs) (h:∀ ys,hp b≠some (.list ys)):Src B (hp.set b o) L v bs:=by
 cases x with
 | list y=>exact .list (y.put h)
 | emp=>exact .emp
theorem Src.le {B:Shared}{hp hp':Hp}{L:Addr}{v:AV}{bs:List Int} (x:Src B hp L v bs) (h:Hp.Le hp hp'):Src B hp' L v bs:=by
 cases x with
 | list y=>exact .list (y.le h)
 | emp=>exact .emp
theorem Src.nbi {B:Shared}{hp:Hp}{L:Addr}{v:AV}{bs:List Int} (x:Src B hp L v bs):∀ n,v≠.bi n:=by cases x <;> (intro _ e;cases e)
theorem Zgs:∀ {l l':List Int},l.Nodup->(∀ x ∈ l,x ∈ l')->l.length<=l'.length
 | [],_,_,_=>Nat.zero_le _
 | a :: r,l',hn,hs=>by have ha:=hs a (.head _);have ih:=Zgs (l:=r) (l':=l'.erase a) (List.nodup_cons.mp hn).2 λx hx=>(List.mem_erase_of_ne (λe:x=a=>(List.nodup_cons.mp hn).1 (e ▸ hx))).mpr (hs x (.tail _ hx));rw[List.length_erase_of_mem ha]at ih;have:=List.length_pos_of_mem ha;simp only[List.length_cons];(exact F20 0x96805904407850681a 0x1110110110 rfl ih this)
theorem Zf1 {kvs:List (Int × AV)}{k:Int} (h:k ∈ kvs.map (·.1)):dget kvs k≠none:=λe=>Zf2 e h
theorem Zl4 {kvs:List (Int × AV)}{k:Int} (h:dget kvs k≠none):k ∈ kvs.map (·.1):=by
 unfold dget at h;cases e:kvs.find? (λkv=>decide (kv.1=k)) with
 | none=>rw[e]at h;exact absurd rfl h
 | some p=>exact List.mem_map.mpr ⟨p,List.mem_of_find?_eq_some e,by simpa using List.find?_some e⟩
section
theorem B2J.setz {hb hp:Hp}{L d z:Addr}{o:AO}{kvs:List (Int × AV)}{bs:List Int} (R:B2J hb hp L d kvs bs) (hd:d≠z) (ne:∀ k v,dget kvs k=some v->v≠.ref z):B2J hb (hp.set z o) L d kvs bs:=⟨Hp.snt hd R.di,R.dL,R.no,λk v hk=>by
 obtain ⟨a,rfl,ha,r⟩:=R.yes k v hk
 exact ⟨a,rfl,Hp.snt (λe=>ne k _ hk (by rw[e])) ha,r⟩,R.inj,R.len,R.nd,R.ne⟩
theorem B2J.delz {hb hp:Hp}{L d z:Addr}{kvs:List (Int × AV)}{bs:List Int} (R:B2J hb hp L d kvs bs) (hd:d≠z) (ne:∀ k v,dget kvs k=some v->v≠.ref z):B2J hb (hp.del z) L d kvs bs:=⟨by rw[Hp.del_ne _ hd];exact R.di,R.dL,R.no,λk v hk=>by
 obtain ⟨a,rfl,ha,r⟩:=R.yes k v hk
 exact ⟨a,rfl,by rw[Hp.del_ne _ (λe=>ne k _ hk (by rw[e]))];exact ha,r⟩,R.inj,R.len,R.nd,R.ne⟩
theorem Zha {hp1 hpA:Hp}{L x dx C j:Addr}{ma ma':Loc}{o:AO} (I:Ins hp1 L x dx C ma) (hj:hp1 j=none) (e:(hp1.set j o).set dx (.atr ma')=hpA):Ins hpA L x dx C ma'/\hpA j=some o/\j≠dx/\∀ z o',z≠dx->hp1 z=some o'->hpA z=some o':=by subst e;have n:=Ne.symm (Hp.ne_of I.at_ hj);exact ⟨(I.le ((Hp.Le.refl hp1).set hj o)).put,Hp.snt n (Hp.ss ..),n,λz o' hz e=>Hp.snt hz (Hp.snt (Hp.ne_of e hj) e)⟩
theorem Src.keep {B:Shared}{hp hp':Hp}{L:Addr}{v:AV}{bs:List Int} (x:Src B hp L v bs) (k:∀ z ys,hp z=some (.list ys)->hp' z=some (.list ys)):Src B hp' L v bs:=by
 cases x with
 | list y=>
  rcases y with ⟨e,hh'⟩ | e
  .exact .list (.inl ⟨k _ _ e,hh'⟩)
  .exact .list (.inr e)
 | emp=>exact .emp
theorem Zky {v:AV}{bs:List Int}{Q:QV} (x:Src B hp env.locals v bs) (hlen:bs.length<=4000) (hq:Q (.int bs.length) hp):CL (model PW W0) A E B env (.builtin "len") m [v] hp Q:=by
 cases x with
 | list y=>exact Zbe y (by rw[List.length_map];exact sz' (by (exact Nat.le_trans ‹_› (by decide)))) (by rw[List.length_map];exact hq)
 | emp=>exact Zor (by decide) hq
noncomputable abbrev Ic (x d:Addr) (bv:AV) (hb:Hp) (L:Addr) (bs:List Int) (m':Loc) (hp':Hp):Prop:=m' (S "self")=some (.ref x)/\m' (S "b")=some bv/\Hp.Le hb hp'/\(∃ kvs,B2J hb hp' L d kvs bs)/\m' (S "b2j")=some (.ref d)
theorem Zh8 {L x d:Addr}{bv:AV}{bs:List Int} {hb1:Hp}{KK:QX} (G:Gnd (KW W0) B) (hh:A.handled=none) (hl1:Src B hb1 L bv bs) (hbd:hb1 d=none) (hdL:d≠L) (hlen:bs.length<=4000)
  (f1:m (S "self")=some (.ref x)) (f2:m (S "b")=some bv) (f3:m (S "b2j")=some (.ref d)) (hK:∀ m' hp',Ic x d bv hb1 L bs m' hp'->KK .next m' hp') :
  EX (model PW W0) A (λ_ _=>False) B (callEnv Zbq L 188) ((Zbg (mS 5)).getD 2 (.Pass ⟨0,0,0,0⟩)) m (hb1.set d (.dict [])) KK:=by
 cases hl1 with
 | @list bA _ hl1'=>
  refine Ziq hh (Zat G (Zja W0) Zhm (by decide) (λ_=>Zc7) ⟨rfl,Zab (Zaa (v:=.ref bA) (by first | assumption | rfl) (Zae ⟨bA,bs.map .int,rfl,hl1'.le ((Hp.Le.refl _).set hbd _),λit en hit hitL hen henL hne=>?_⟩))⟩);have hib:hb1 it=none:=((Hp.Le.refl hb1).set hbd _).none hit;have heb:hb1 en=none:=((Hp.Le.refl hb1).set hbd _).none hen;have hdi:d≠it:=Hp.ne_of (Hp.ss ..) hit;have hden:d≠en:=Hp.ne_of (Hp.ss ..) hen;let Iq:Nat->Loc->Hp->Prop:=λi m₂ hp₂=>m₂ (S "self")=some (.ref x)/\m₂ (S "b")=some (.ref bA)/\m₂ (S "b2j")=some (.ref d)/\Hp.Le hb1 hp₂/\∃ kvs,B2J hb1 hp₂ L d kvs (bs.take i)/\(∀ k v,dget kvs k=some v->v≠.ref it/\v≠.ref en);refine ⟨Iq,λo1 o2=>?_,λi m₂ hp₂ ob x=>?_,λi m₂ hp₂ ob x=>?_,λi m₂ hp₂ x=>hl1'.le x.2.2.2.1,λi y m₂ hp₂ o1 o2 hy x h1 h2=>?_,λm₂ hp₂ x=>?_⟩
  .refine ⟨by first | assumption | rfl,by first | assumption | rfl,by first | assumption | rfl,(((Hp.Le.refl _).set hbd _).set hib _).set heb _,[],⟨?_,hdL,λk _=>rfl,λk v hk=>(by cases hk),λk k' a hk=>(by cases hk),Nat.le_refl _,.nil,λk v hk=>(by cases hk)⟩,λk v hk=>(by cases hk)⟩;exact Hp.snt hden (Hp.snt hdi (Hp.ss ..))
  .refine hide λ_ Z=>?_;obtain ⟨x1,x2,x3,x4,kvs,R,hne'⟩:=x;apply Z;clear Z;exact ⟨x1,x2,x3,x4.set hib _,kvs,R.setz hdi λk v hk=>(hne' k v hk).1,hne'⟩
  .refine hide λ_ Z=>?_;obtain ⟨x1,x2,x3,x4,kvs,R,hne'⟩:=x;apply Z;clear Z;exact ⟨x1,x2,x3,x4.set heb _,kvs,R.setz hden λk v hk=>(hne' k v hk).2,hne'⟩
  .refine hide λ_ Z=>?_;obtain ⟨x1,x2,x3,x4,kvs,R,hne'⟩:=x;obtain ⟨v,hbk,rfl⟩:∃ v,bs[i]?=some v/\AV.int v=y:=by rw[List.getElem?_map]at hy;exact Option.map_eq_some_iff.mp hy
   apply Z;clear Z;have hil:i < bs.length:=(List.getElem?_eq_some_iff.mp hbk).1;have hti:(bs.take i).length=i:=by rw[List.length_take];lia
   have etake:bs.take (i + 1)=bs.take i ++ [v]:=by rw[List.take_add_one,hbk];rfl
   rw[show (AV.tup [.int i,.int v]) = .tup [.int (bs.take i).length,.int v] from by rw[hti]];refine Zh7 (x:=v) (tp:=⟨0,0,0,0⟩) G hh x3 R x4 hbd (by lia) h1 h2 λm4 hp4 hmm q1 q2 q3 yq=>?_;refine hide λ_ Z=>?_;obtain ⟨kvs',R'⟩:=yq;apply Z;clear Z;refine ⟨⟨by rw[hmm _ (by decide) (by decide) (by decide)];exact x1,by rw[hmm _ (by decide) (by decide) (by decide)];exact x2,by rw[hmm _ (by decide) (by decide) (by decide)];exact x3,q3,kvs',by rw[etake];exact R',λk u hk=>?_⟩,q1,q2⟩;refine hide λ_ Z=>?_;obtain ⟨a,rfl,ha,_,_⟩:=R'.yes k u hk;apply Z;clear Z;exact ⟨λe=>(by cases e;rw[q1]at ha;cases ha),λe=>(by cases e;rw[q2]at ha;cases ha)⟩
  .refine hide λ_ Z=>?_;obtain ⟨x1,x2,x3,x4,kvs,R,hne'⟩:=x;apply Z;clear Z;rw[List.length_map,List.take_length]at R;exact hK _ _ ⟨x1,x2,x4.del hib,⟨kvs,R.delz hdi λk v hk=>(hne' k v hk).1⟩,x3⟩
 | emp=>
  refine Zgd hh (Zat G (Zja W0) Zhm (by decide) (λ_=>Zc7) ⟨rfl,Zab (Zaa (v:=.str (S "")) (by first | assumption | rfl) (Zae ⟨rfl,?_⟩))⟩);exact hK _ _ ⟨by first | assumption | rfl,by first | assumption | rfl,(Hp.Le.refl _).set hbd _,⟨[],Hp.ss ..,hdL,λk _=>rfl,λk v hk=>(by cases hk),λk k' a hk=>(by cases hk),Nat.le_refl _,.nil,λk v hk=>(by cases hk)⟩,by first | assumption | rfl⟩
end
noncomputable abbrev Best:=Int × Int × Int
noncomputable abbrev FSt:=(Int->Int) × Best
noncomputable def innS (i:Int) (f:Int->Int) (st:FSt) (j:Int):FSt:=
 (λx=>if x=j then f (j - 1) + 1 else st.1 x,if f (j - 1) + 1 > st.2.2.2 then (i - (f (j - 1) + 1) + 1,j - (f (j - 1) + 1) + 1,f (j - 1) + 1) else st.2)
noncomputable def Zc4 (i blo bhi:Int) (f:Int->Int):List Nat->FSt->FSt
 | [],st=>st
 | j :: js,st=>if (j:Int) < blo then Zc4 i blo bhi f js st else if (j:Int)>=bhi then st else Zc4 i blo bhi f js (innS i f st j)
theorem inner_s {i blo bhi:Int}{f:Int->Int}{j:Nat}{js:List Nat}{st:FSt}:Zc4 i blo bhi f (j :: js) st=if (j:Int) < blo then Zc4 i blo bhi f js st else if (j:Int)>=bhi then st else Zc4 i blo bhi f js (innS i f st j):=rfl
theorem Znu {i blo bhi:Int}{f:Int->Int}{st:FSt}:Zc4 i blo bhi f [] st=st:=rfl
noncomputable def DI (kvs:List (Int × AV)) (f:Int->Int):Prop:=∀ k,(dget kvs k).getD (.int 0) = .int (f k)
theorem Zj3 (kvs:List (Int × AV)) (k:Int) (v:AV) (k':Int):dget (dput kvs k v) k'=if k'=k then some v else dget kvs k':=by
 unfold dput;by_cases h:(kvs.any λkv=>decide (kv.1=k))=true
 .rw [if_pos h];unfold dget
  induction kvs with
  | nil=>simp at h
  | cons p kvs ih=>
   obtain ⟨q,u⟩:=p;simp only[List.map_cons];by_cases hq:q=k
   .subst hq;by_cases hk:k'=q
    .subst hk;simp
    .simp only [if_true,List.find?_cons,hk,if_false];rw[show decide (q=k')=false from by simpa using Ne.symm hk];dsimp only;by_cases h':(kvs.any λkv=>decide (kv.1=q))=true
     .rw [ih h',if_neg hk]
     .have:kvs.map (λkv=>if kv.1=q then (kv.1,v) else kv)=kvs:=by rw[List.map_congr_left (g:=λx=>x)];simp;intro a ha;have:a.1≠q:=λe=>h' (List.any_eq_true.mpr ⟨a,ha,by simpa using e⟩);simp[this]
      rw[this]
   .simp only [hq,if_false,List.find?_cons];by_cases hk:q=k'
    .subst hk;simp[hq]
    .rw [show decide (q=k')=false from by simpa using hk];dsimp only;refine ih ?_
     simpa [hq] using h
 .rw [if_neg h];refine Zcc kvs k v k' ?_;unfold dget;rw[List.find?_eq_none.mpr];rfl;intro x hx hx';exact h (List.any_eq_true.mpr ⟨x,hx,hx'⟩)
theorem Zhk (kvs:List (Int × AV)) (k:Int) (v:AV):(dput kvs k v).length<=kvs.length + 1:=by unfold dput;split <;> simp
theorem DI.put {kvs:List (Int × AV)}{f:Int->Int} (h:DI kvs f) (k v:Int):DI (dput kvs k (.int v)) (λx=>if x=k then v else f x):=λx=>by
 rw[Zj3];by_cases e:x=k
 .simp [e]
 .simp only [e,if_false];exact h x
noncomputable def flmS (i:Nat):Stmt:=(Zbg (mS 6)).getD i (.Pass ⟨0,0,0,0⟩)
noncomputable def flmO:List Stmt:=kids (flmS 7)
noncomputable def flmI:Stmt:=flmO.getD 2 (.Pass ⟨0,0,0,0⟩)
noncomputable def Zbh (m:Loc) (b:Best):Prop:=m (S "besti")=some (.int b.1)/\m (S "bestj")=some (.int b.2.1)/\m (S "bestsize")=some (.int b.2.2)
section
variable {A:Around}{E:ET}{B:Shared}{m:Loc}{hp:Hp}
theorem Zl0 {L gb dj dn:Addr}{kj kn:List (Int × AV)}{f g:Int->Int}{i j blo bhi:Int}{b:Best} (G:Gnd (KW W0) B) (hh:A.handled=none)
  (h1:m (S "i")=some (.int i)) (h2:m (S "blo")=some (.int blo)) (h3:m (S "bhi")=some (.int bhi)) (h4:m (S "j2lenget")=some (.ref gb)) (h5:m (S "newj2len")=some (.ref dn)) (hb:Zbh m b) (hj:m (S "j")=some (.int j))
  (g1:hp gb=some (.obj (Zax "dict.get" dj))) (g1L:gb≠L) (g2:hp dj=some (.dict kj)) (g2L:dj≠L) (g3:DI kj f) (g4:hp dn=some (.dict kn)) (g4L:dn≠L) (g5:DI kn g) (hlen:kn.length<=4900) {KK:QX}
  (k1:j < blo->KK .cont m hp) (k2:¬ j < blo->j>=bhi->KK .brk m hp) (k3:∀ m' kn',(∀ y,y ≠ "k" -> y ≠ "besti" -> y ≠ "bestj" -> y ≠ "bestsize" -> m' (S y)=m (S y))->¬ j < blo->¬ j>=bhi->Zbh m' (innS i f (g,b) j).2->kn'.length<=kn.length + 1->DI kn' (innS i f (g,b) j).1->KK .next m' (hp.set dn (.dict kn'))) :
  EXs (model PW W0) A E B (callEnv Za2 L 196) (kids flmI) m hp KK:=by
 refine hide λ_ Z=>?_;obtain ⟨b1,b2,b3⟩:=hb;apply Z;clear Z;refine Zac ?_;refine Zcf ?_;refine Zaf ?_;refine Zaa (by first | assumption | rfl) ?_;refine Zaa (by first | assumption | rfl) ?_;refine Zea ?_;refine Zaj ?_;by_cases c1:j < blo
 .refine Zb1 c1 ?_;refine Zac ?_;refine Zg4 ?_;exact k1 c1
 refine Zbu c1 ?_;refine Zal (Zac ?_);refine Zcf ?_;refine Zaf ?_;refine Zaa (by first | assumption | rfl) ?_;refine Zaa (by first | assumption | rfl) ?_;refine Zkl ?_;refine Zaj ?_;by_cases c2:j>=bhi
 .refine Zb1 (show bhi<=j from c2) ?_;refine Zac ?_;refine Zmi ?_;exact k2 c1 c2
 refine Zbu (show ¬ bhi<=j from c2) ?_;refine Zal (Zac (Zba (Zad (Zb3 (id := "dict.get") (Zaa h4 ⟨gb,dj,rfl,g1L,?_⟩)))));refine Zab ?_;refine Zad ?_;refine Zaa (by first | assumption | rfl) ?_;refine Zah ?_;refine Za6 ?_;refine Zab ?_;refine Zah ?_;refine Zae ?_;refine ⟨g1,Zox G g1 g1L g2 g2L ?_⟩;rw[g3 (j - 1)];refine Zah ?_;refine Zap ?_;refine Zak (Zk0 ?_);refine Zaa (by first | assumption | rfl) ?_;refine Zaa (by first | assumption | rfl) ?_;refine ⟨dn,kn,j,rfl,rfl,g4,g4L,by (exact Nat.le_trans ‹_› (by decide)),?_⟩;refine Zac ?_;refine Zcf ?_;refine Zaf ?_;refine Zaa (by first | assumption | rfl) ?_;refine Zaa (by first | assumption | rfl) ?_;refine Zic ?_;refine Zaj ?_;have hD:=g5.put j (f (j - 1) + 1);by_cases c3:b.2.2 < f (j - 1) + 1
 .refine Zb1 c3 ?_;refine Zac (Za4 hh (names:=[S "besti",S "bestj",S "bestsize"]) ?_);refine Zan ?_;refine Zab ?_;refine Zad ?_;refine Zad ?_;refine Zaa (by first | assumption | rfl) ?_;refine Zaa (by first | assumption | rfl) ?_;refine Za6 ?_;refine Zah ?_;refine Zap ?_;refine Zab ?_;refine Zad ?_;refine Zad ?_;refine Zaa (by first | assumption | rfl) ?_;refine Zaa (by first | assumption | rfl) ?_;refine Za6 ?_;refine Zah ?_;refine Zap ?_;refine Zab ?_;refine Zaa (by first | assumption | rfl) ?_;refine Zae ?_;refine ⟨sz rfl,?_⟩;refine ⟨_,rfl,rfl,Zas (Zas (Zas (Zav ?_)))⟩;refine Zal ?_;refine Zal ?_;refine k3 _ _ (λy a1 a2 a3 a4=>by simp only[ug,a1,a2,a3,a4,if_false]) c1 c2 ?_ (Zhk ..) hD;have c3':f (j - 1) + 1 > b.2.2:=c3;simp only[innS,c3',if_true];refine ⟨?_,?_,?_⟩ <;> (first | assumption | rfl)
 .refine Zbu c3 ?_;refine Zal (Zal (k3 _ _ (λy a1 a2 a3 a4=>by simp only[ug,a1,if_false]) c1 c2 ?_ (Zhk ..) hD));have c3':¬ (f (j - 1) + 1 > b.2.2):=c3;simp only[innS,c3',if_false];refine ⟨?_,?_,?_⟩ <;> (first | assumption | rfl)
end
noncomputable def Zfy:List String:=["j", "k", "besti", "bestj", "bestsize"]
section
variable {A:Around}{E:ET}{B:Shared}{m:Loc}{hp:Hp}
theorem Zju {L gb dj dn d aA nt:Addr}{kj kn:List (Int × AV)}{f g:Int->Int}{J:Int->List Nat}{i blo bhi x:Int}{b:Best}{as:List AV} (G:Gnd (KW W0) B) (hh:A.handled=none)
  (h1:m (S "i")=some (.int i)) (h2:m (S "blo")=some (.int blo)) (h3:m (S "bhi")=some (.int bhi)) (h4:m (S "j2lenget")=some (.ref gb)) (h5:m (S "newj2len")=some (.ref dn)) (hb:Zbh m b) (h6:m (S "b2j")=some (.ref d)) (h7:m (S "a")=some (.ref aA)) (h8:m (S "nothing")=some (.ref nt))
  (g1:hp gb=some (.obj (Zax "dict.get" dj))) (g1L:gb≠L) (g2:hp dj=some (.dict kj)) (g2L:dj≠L) (g3:DI kj f) (g4:hp dn=some (.dict kn)) (g4L:dn≠L) (g5:DI kn g) (hlen:kn=[]) (hdd:dn≠dj)
  (R:JD hp L d J) (hE:PassesOwn (model PW W0) A (callEnv Za2 L 196) E) (hl:Lst B hp L aA as) (hnt:hp nt=some (.list [])) (hntL:nt≠L) (hi : 0<=i) (hx:as[i.toNat]?=some (.int x)) (hi2:i < 2 ^ 62) (hJ:(J x).length<=4000) {KK:QX}
  (hK:∀ m' hp' kn',(∀ y,y ∉ Zfy->m' (S y)=m (S y))->Zbh m' (Zc4 i blo bhi f (J x) (g,b)).2->kn'.length<=4000->hp' dn=some (.dict kn')->DI kn' (Zc4 i blo bhi f (J x) (g,b)).1->(∀ z o,z≠dn->hp z=some o->hp' z=some o)->KK .next m' hp') :
  EX (model PW W0) A E B (callEnv Za2 L 196) flmI m hp KK:=by
 refine hide λ_ Z=>?_;obtain ⟨kvs,r1,r2,r3,r4⟩:=R.ex;have src:∃ a,(dget kvs x).getD (.ref nt) = .ref a/\hp a=some (.list ((J x).map λ(i:Nat)=>AV.int (i:Int)))/\a≠L:=by
  cases e:dget kvs x with
  | none=>exact ⟨nt,rfl,by rw[r3 x e];exact hnt,hntL⟩
  | some v=>obtain ⟨a,rfl,ha,haL⟩:=r4 x v e;exact ⟨a,rfl,ha,haL.1⟩
 obtain ⟨lA,e1,e2,e3⟩:=src;apply Z;clear Z;have hdl:dn≠lA:=λe=>by rw[e,e2]at g4;cases g4
 refine Zfb (hE:=hE) hh (Zc0 F.slot_dict_get F.type_dict_get F.plainAttrs_dict (Zaa h6 ⟨d,rfl,Zew r1 r2,Zab (Zai (Zaa h7 (Zaa h1 (Zar hl hi (by lia) (x:=.int x) ?_ (Zab (Zaa h8 (Zae (Zow G r1 r2 ?_))))))))⟩))
 .exact hx
 rw[e1];refine ⟨lA,_,rfl,.own e2 e3,λit hit hitL=>?_⟩;have hid:it≠dn:=Ne.symm (Hp.ne_of g4 hit);have hib:Zbh m b:=hb;let Iq:Nat->Loc->Hp->Prop:=λk m₂ hp₂=>(∀ y,y ∉ Zfy->m₂ (S y)=m (S y))/\∃ kn' g' b',Zbh m₂ b'/\kn'.length<=k/\hp₂ dn=some (.dict kn')/\DI kn' g'/\(∀ z o,z≠dn->hp z=some o->hp₂ z=some o)/\Zc4 i blo bhi f ((J x).drop k) (g',b')=Zc4 i blo bhi f (J x) (g,b);refine ⟨Iq,λob=>?_,λk m₂ hp₂ ob x=>?_,λk m₂ hp₂ x=>?_,λk y m₂ hp₂ ob hy x hob=>?_,λm₂ hp₂ x=>?_⟩
 .exact ⟨λ_ _=>rfl,kn,g,b,hb,by rw[hlen];exact Nat.le_refl _,Hp.snt (Ne.symm hid) g4,g5,λz o hz e=>Hp.snt (Hp.ne_of e hit) e,rfl⟩
 .refine hide λ_ Z=>?_;obtain ⟨x0,kn',g',b',x1,x2,x3,x4,x5,x6⟩:=x;apply Z;clear Z;exact ⟨x0,kn',g',b',x1,x2,Hp.snt (Ne.symm hid) x3,x4,λz o hz e=>Hp.snt (Hp.ne_of e hit) (x5 z o hz e),x6⟩
 .refine hide λ_ Z=>?_;obtain ⟨x0,kn',g',b',x1,x2,x3,x4,x5,x6⟩:=x;apply Z;clear Z;exact .own (x5 _ _ (Ne.symm hdl) e2) e3
 .refine hide λ_ Z=>?_;obtain ⟨x0,kn',g',b',x1,x2,x3,x4,x5,x6⟩:=x;obtain ⟨j,hjk,rfl⟩:∃ j,(J x)[k]?=some j/\AV.int (j:Int)=y:=by rw[List.getElem?_map]at hy;exact Option.map_eq_some_iff.mp hy
  apply Z;clear Z;have hkl:k < (J x).length:=(List.getElem?_eq_some_iff.mp hjk).1;have hdrop:(J x).drop k=j :: (J x).drop (k + 1):=by rw[List.drop_eq_getElem_cons hkl];congr 1;rw[List.getElem?_eq_getElem hkl]at hjk;exact Option.some.inj hjk
  refine Zak ?_;have hm':∀ y,y ∉ Zfy->upd m₂ (S "j") (.int j) (S y)=m (S y):=λy hy=>by have:y ≠ "j" := λe=>hy (by rw[e];decide);rw[ug,if_neg this];exact x0 y hy
  have hbl:Zbh (upd m₂ (S "j") (.int j)) b':=by obtain ⟨q1,q2,q3⟩:=x1;exact ⟨by first | assumption | rfl,by first | assumption | rfl,by first | assumption | rfl⟩
  rw[hdrop]at x6;refine Zb0 λKB hKB=>?_;refine Zl0 (A:=A) G hh (by rw[hm' _ (by decide)];exact h1) (by rw[hm' _ (by decide)];exact h2) (by rw[hm' _ (by decide)];exact h3) (by rw[hm' _ (by decide)];exact h4) (by rw[hm' _ (by decide)];exact h5) hbl (by first | assumption | rfl)
   (x5 _ _ (λe=>by rw[e,g4]at g1;cases g1) g1) g1L (x5 _ _ (Ne.symm hdd) g2) g2L g3 x3 g4L x4 (by lia) (λc1=>?_) (λc1 c2=>?_) (λm4 kn2 y0 c1 c2 c3 c4 c5=>?_)
  .refine hKB _ _ _ ⟨⟨hm',kn',g',b',hbl,by (exact F20 0x680758750 0x11 rfl x2),x3,x4,x5,?_⟩,hob⟩;rw[<-x6,inner_s,if_pos c1]
  .refine hKB _ _ _ (hK _ _ kn' hm' ?_ (by lia) x3 ?_ x5)
   .rw [<-x6,inner_s,if_neg c1,if_pos c2];exact hbl
   .rw [<-x6,inner_s,if_neg c1,if_pos c2];exact x4
  .refine hKB _ _ _ ⟨⟨λy hy=>?_,kn2,_,_,c3,by (exact F30 0x680956709508750 0x111 rfl x2 c4),Hp.ss ..,c5,λz o hz e=>Hp.snt hz (x5 z o hz e),?_⟩,Hp.snt hid hob⟩
   .have a1:y ≠ "k" := λe=>hy (by rw[e];decide);have a2:y ≠ "besti" := λe=>hy (by rw[e];decide);have a3:y ≠ "bestj" := λe=>hy (by rw[e];decide);have a4:y ≠ "bestsize" := λe=>hy (by rw[e];decide);rw[y0 y a1 a2 a3 a4];exact hm' y hy
   .rw [<-x6,inner_s,if_neg c1,if_neg c2]
 .refine hide λ_ Z=>?_;obtain ⟨x0,kn',g',b',x1,x2,x3,x4,x5,x6⟩:=x;apply Z;clear Z;rw[List.length_map,List.drop_length,Znu]at x6;rw[List.length_map]at x2;exact hK _ _ kn' x0 (by rw[<-x6];exact x1) (by (exact Nat.le_trans ‹_› ‹_›)) (by rw[Hp.del_ne _ (Ne.symm hid)];exact x3) (by rw[<-x6];exact x4) (λz o hz e=>by rw[Hp.del_ne _ (Hp.ne_of e hit)];exact x5 z o hz e)
theorem Zez {L d aA:Addr}{kvs:List (Int × AV)}{i:Int}{as:List AV}{hb:Hp}{KK:QX} (hh:A.handled=none) (T:THR E B (callEnv Za2 L 196) hb "IndexError") (hle:Hp.Le hb hp)
  (h1:m (S "i")=some (.int i)) (h6:m (S "b2j")=some (.ref d)) (h7:m (S "a")=some (.ref aA)) (r1:hp d=some (.dict kvs)) (r2:d≠L) (hl:Lst B hp L aA as) (h0:(as.length:Int)<=i) (hi2:i < 2 ^ 62) (hE:PassesOwn (model PW W0) A (callEnv Za2 L 196) E) :
  EX (model PW W0) A E B (callEnv Za2 L 196) flmI m hp KK:=
 Zfb (hE:=hE) hh (Zc0 F.slot_dict_get F.type_dict_get F.plainAttrs_dict (Zaa h6 ⟨d,rfl,Zew r1 r2,Zab (Zai (Zaa h7 (Zaa h1 (Zgz hh T hle hl h0 (by lia)))))⟩))
theorem Zey {L d aA nt l:Addr}{kvs:List (Int × AV)}{i:Int}{as xs:List AV}{hb:Hp}{KK:QX} (hh:A.handled=none) (hu:A.units + 10 < cLine) (T:THR E B (callEnv Za2 L 196) hb "TypeError") (hle:Hp.Le hb hp)
  (h1:m (S "i")=some (.int i)) (h6:m (S "b2j")=some (.ref d)) (h7:m (S "a")=some (.ref aA)) (h8:m (S "nothing")=some (.ref nt)) (r1:hp d=some (.dict kvs)) (r2:d≠L) (hl:Lst B hp L aA as) (hi : 0<=i) (hx:as[i.toNat]?=some (.ref l)) (hxs:Lst B hp L l xs) (hi2:i < 2 ^ 62)
  (hE:PassesOwn (model PW W0) A (callEnv Za2 L 196) E) :
  EX (model PW W0) A E B (callEnv Za2 L 196) flmI m hp KK:=
 Zfb (hE:=hE) hh (Zc0 F.slot_dict_get F.type_dict_get F.plainAttrs_dict (Zaa h6 ⟨d,rfl,Zew r1 r2,Zab (Zai (Zaa h7 (Zaa h1 (Zar hl hi (by lia) hx (Zab (Zaa h8 (Zae (Zg5 hh hu T hle r1 r2 hxs))))))))⟩))
end
noncomputable def toI:AV->Int
 | .int k=>k
 | _=>0
noncomputable def Ints (as:List AV) (lo hi:Int):Prop:=∀ k:Int,lo<=k->k < hi->∃ x,as[k.toNat]?=some (.int x)
noncomputable def outS (as:List Int) (J:Int->List Nat) (alo blo bhi:Int):Nat->FSt
 | 0=>(λ_=>0,(alo,blo,0))
 | n + 1=>Zc4 (alo + n) blo bhi (outS as J alo blo bhi n).1 (J (as.getD (alo + n).toNat 0)) (λ_=>0,(outS as J alo blo bhi n).2)
theorem Zmr {as:List Int}{J:Int->List Nat}{alo blo bhi:Int}{n:Nat}:outS as J alo blo bhi (n + 1)=Zc4 (alo + n) blo bhi (outS as J alo blo bhi n).1 (J (as.getD (alo + n).toNat 0)) (λ_=>0,(outS as J alo blo bhi n).2):=rfl
noncomputable def Zef:List String:=["i", "j2lenget", "newj2len", "j2len", "j", "k", "besti", "bestj", "bestsize"]
theorem fo {y:String} (h:y ∉ Zef):y ∉ Zfy:=λe=>h (by
 simp only[Zfy,List.mem_cons,List.not_mem_nil,or_false]at e;simp only[Zef,List.mem_cons,List.not_mem_nil,or_false]
 rcases e with e | e | e | e | e <;> simp[e])
section
variable {A:Around}{E:ET}{B:Shared}{m:Loc}{hp:Hp}
theorem Zjt {L d aA nt d0:Addr}{J:Int->List Nat}{alo ahi blo bhi:Int}{as:List AV}{hbs:Hp} (G:Gnd (KW W0) B) (hh:A.handled=none) (hu:A.units + 10 < cLine) (hE:PassesOwn (model PW W0) A (callEnv Za2 L 196) E)
  (TI:∀ i:Int,alo<=i->i < ahi->(as.length:Int)<=i->Ints as alo i->THR E B (callEnv Za2 L 196) hbs "IndexError") (TT:∀ (i:Int) l,alo<=i->i < ahi->as[i.toNat]?=some (.ref l)->Ints as alo i->THR E B (callEnv Za2 L 196) hbs "TypeError") (hbl:Hp.Le hbs hp)
  (items:∀ (i:Nat) x,as[i]?=some x->(∃ k,x = .int k)\/∃ l xs,x = .ref l/\Lst B hp L l xs)
  (h1:m (S "alo")=some (.int alo)) (h1':m (S "ahi")=some (.int ahi)) (h2:m (S "blo")=some (.int blo)) (h3:m (S "bhi")=some (.int bhi)) (hb:Zbh m (alo,blo,0)) (h6:m (S "b2j")=some (.ref d)) (h7:m (S "a")=some (.ref aA)) (h8:m (S "nothing")=some (.ref nt)) (h9:m (S "j2len")=some (.ref d0))
  (g2:hp d0=some (.dict [])) (g2L:d0≠L) (R:JD hp L d J) (hl:Lst B hp L aA as) (hnt:hp nt=some (.list [])) (hntL:nt≠L) (ha0 : 0<=alo) (ha1:ahi < 2 ^ 62) (ha2:alo < 2 ^ 62) (hal2 : -(2 ^ 62)<=ahi) (hJ:∀ x,(J x).length<=4000) {KK:QX}
  (hK:∀ m' hp',Ints as alo ahi->(∀ y,y ∉ Zef->m' (S y)=m (S y))->Zbh m' (outS (as.map toI) J alo blo bhi (ahi - alo).toNat).2->Hp.Le hp hp'->KK .next m' hp') :
  EX (model PW W0) A E B (callEnv Za2 L 196) (flmS 7) m hp KK:=by
 refine Zd3 (hE:=hE) hh (Zb9 (Zat G (Zb5 W0) Zbr (by decide) (λ_=>Zc7) ⟨rfl,Zab (Zaa h1 (Zab (Zaa h1' (Zae (Zc1 λr ob hr hrL ro=>?_)))))⟩));refine ⟨r,ob,alo,ahi,rfl,Hp.ss ..,hrL,ro,by lia,ha2,hal2,by omega,λit hit hitL=>?_⟩;have hle1:Hp.Le hp (hp.set r (.obj ob)):=(Hp.Le.refl _).set hr _;have hit':hp it=none:=hle1.none hit;refine ⟨λn m₂ hp₂=>Ints as alo (alo + n)/\(∀ y,y ∉ Zef->m₂ (S y)=m (S y))/\Zbh m₂ (outS (as.map toI) J alo blo bhi n).2/\Hp.Le hp hp₂/\∃ dj kj,m₂ (S "j2len")=some (.ref dj)/\hp₂ dj=some (.dict kj)/\dj≠L/\dj≠it/\DI kj (outS (as.map toI) J alo blo bhi n).1,λob'=>?_,λn m₂ hp₂ ob' x=>?_,λn m₂ hp₂ ob' hn x hob=>?_,λm₂ hp₂ x=>?_⟩
 .have hd0:d0≠it:=Hp.ne_of (hle1 _ _ g2) hit;refine ⟨λk k1 k2=>absurd k2 (by (exact F02 0x4370872043708708780 0x11 rfl k1 k2)),λ_ _=>rfl,hb,hle1.set hit' _,d0,[],h9,Hp.snt hd0 (hle1 _ _ g2),g2L,hd0,λk=>rfl⟩
 .refine hide λ_ Z=>?_;obtain ⟨xI,x0,x1,x2,dj,kj,x3,x4,x5,x6,x7⟩:=x;apply Z;clear Z;exact ⟨xI,x0,x1,x2.set hit' _,dj,kj,x3,Hp.snt x6 x4,x5,x6,x7⟩
 .refine hide λ_ Z=>?_;obtain ⟨xI,x0,x1,x2,dj,kj,x3,x4,x5,x6,x7⟩:=x;obtain ⟨b1,b2,b3⟩:=x1;apply Z;clear Z;refine Zak ?_;refine Zb0 λKB hKB=>?_
  try dsimp only
  generalize hm1:upd m₂ _ _=m1;have q0:∀ y,y ∉ Zef->m1 (S y)=m (S y):=λy hy=>by subst hm1;have:y ≠ "i" := λe=>hy (by rw[e];decide);rw[ug,if_neg this];exact x0 y hy
  have q1:m1 (S "i")=some (.int (alo + n)):=by subst hm1;(first | assumption | rfl)
  have q2:Zbh m1 (outS (as.map toI) J alo blo bhi n).2:=by subst hm1;exact ⟨by first | assumption | rfl,by first | assumption | rfl,by first | assumption | rfl⟩
  have q3:m1 (S "j2len")=some (.ref dj):=by subst hm1;(first | assumption | rfl)
  clear hm1 b1 b2 b3 x0 x3;refine Zac (Zaq (Zml Zl6 (λho hc h=>Zfr ho hc h) (Zaa q3 ⟨dj,rfl,Zhg x4 x5,λgb hgb hgbL=>?_⟩)));refine Zac (Zaq (Zfd λdn hdn hdnL=>?_));have hle2:Hp.Le hp₂ ((hp₂.set gb (.obj (Zax "dict.get" dj))).set dn (.dict [])):=((Hp.Le.refl _).set hgb _).set (((Hp.Le.refl hp₂).set hgb _).none hdn) _;have hgn:gb≠dn:=Hp.ne_of (Hp.ss ..) hdn;have hdnd:dn≠dj:=Ne.symm (Hp.ne_of (((Hp.Le.refl hp₂).set hgb (.obj (Zax "dict.get" dj))) _ _ x4) hdn);have hidn:it≠dn:=Hp.ne_of (((Hp.Le.refl hp₂).set hgb (.obj (Zax "dict.get" dj))) _ _ hob) hdn
  try dsimp only
  generalize hm2:upd (upd m1 _ _) _ _=m2;have p0:∀ y,y ∉ Zef->m2 (S y)=m (S y):=λy hy=>by subst hm2;exact updO hy (updO hy (q0 y hy))
  have p1:m2 (S "i")=some (.int (alo + n)):=by subst hm2;(first | assumption | rfl)
  have p2:Zbh m2 (outS (as.map toI) J alo blo bhi n).2:=by obtain ⟨b1,b2,b3⟩:=q2;subst hm2;exact ⟨by first | assumption | rfl,by first | assumption | rfl,by first | assumption | rfl⟩
  have p3:m2 (S "j2lenget")=some (.ref gb):=by subst hm2;(first | assumption | rfl)
  have p4:m2 (S "newj2len")=some (.ref dn):=by subst hm2;(first | assumption | rfl)
  clear hm2 q0 q1 q2 q3;have hng:alo + n < ahi:=by (exact F12 0x88370778407813a 0x1011110 rfl hn)
  have hle3:=x2.trans hle2;refine Zac ?_;obtain ⟨kvs,r1,r2,_,_⟩:=(R.le hle3).ex;cases hidx:as[(alo + (n:Int)).toNat]? with
  | none=>exact Zez (hb:=hbs) hh (TI (alo + n) (by (exact F11 0x737078 0x1 rfl)) hng (by have:=List.getElem?_eq_none_iff.mp hidx;(exact fk [_,_] [_] 0x937083878507048083703a 0x1110111010 rfl ha0 this)) xI) (hbl.trans hle3) p1 (by rw[p0 _ (by decide)];exact h6) (by rw[p0 _ (by decide)];exact h7) r1 r2 (hl.le hle3) (by have:=List.getElem?_eq_none_iff.mp hidx;lia) (by (exact Int.lt_trans ‹_› ‹_›)) hE
  | some v=>
  rcases items _ _ hidx with ⟨kx,rfl⟩ | ⟨l,xs,rfl,hxs⟩
  case inr=>exact Zey (hb:=hbs) hh hu (TT (alo + n) l (by lia) hng hidx xI) (hbl.trans hle3) p1 (by rw[p0 _ (by decide)];exact h6) (by rw[p0 _ (by decide)];exact h7) (by rw[p0 _ (by decide)];exact h8) r1 r2 (hl.le hle3) (by (exact F11 0x737004870480 0x11 rfl ha0)) hidx (hxs.le hle3) (by (exact Int.lt_trans ‹_› ‹_›)) hE
  have hkx:(as.map toI).getD (alo + (n:Int)).toNat 0=kx:=by rw[List.getD_eq_getElem?_getD,List.getElem?_map,hidx];rfl
  refine Zju (A:=A) (kn:=[]) (g:=λ_=>0) (x:=kx) (as:=as) G hh p1 (by rw[p0 _ (by decide)];exact h2) (by rw[p0 _ (by decide)];exact h3) p3 p4 p2 (by rw[p0 _ (by decide)];exact h6) (by rw[p0 _ (by decide)];exact h7) (by rw[p0 _ (by decide)];exact h8)
   (Hp.snt hgn (Hp.ss ..)) hgbL (hle2 _ _ x4) x5 x7 (Hp.ss ..) hdnL (λk=>rfl) rfl hdnd (R.le hle3) hE (hl.le hle3) (hle3 _ _ hnt) hntL (by lia) hidx (by (exact Int.lt_trans ‹_› ‹_›)) (hJ _) λm3 hp3 kn' y1 y2 y3 y4 y5 y6=>?_
  refine hide λ_ Z=>?_;obtain ⟨b1,b2,b3⟩:=y2;apply Z;clear Z;have hnb:hp dn=none:=x2.none (((Hp.Le.refl hp₂).set hgb (.obj (Zax "dict.get" dj))).none hdn);have y7:m3 (S "newj2len")=some (.ref dn):=by rw[y1 _ (by decide)];exact p4
  refine Zac (Zaq (Zaa y7 ?_));rw[<-hkx,<-Zmr]at b1 b2 b3 y5;refine Zal (hKB _ _ _ ⟨⟨?_,λy hy=>?_,⟨by first | assumption | rfl,by first | assumption | rfl,by first | assumption | rfl⟩,λz o hz=>?_,dn,kn',?_,y4,hdnL,Ne.symm hidn,y5⟩,?_⟩)
  .intro k k1 k2;by_cases hk:k < alo + n
   .exact xI k k1 hk
   .have:k=alo + n:=by push_cast at k2;(exact F12 0x73807973807720673080770 0x101110 rfl k2 hk)
    subst this;exact ⟨kx,hidx⟩
  .have a1:y ≠ "j2len" := λe=>hy (by rw[e];decide);rw[ug,if_neg a1,y1 y (fo hy)];exact p0 y hy
  .have hzn:z≠dn:=λe=>by rw[e,hnb]at hz;cases hz
   exact y6 z o hzn (hle3 _ _ hz)
  ·(first | assumption | rfl)
  .exact y6 _ _ hidn (hle2 _ _ hob)
 .refine hide λ_ Z=>?_;obtain ⟨xI,x0,x1,x2,dj,kj,x3,x4,x5,x6,x7⟩:=x;apply Z;clear Z;exact hK _ _ (λk k1 k2=>xI k k1 (by (exact F03 0x737087987087807913a 0x111011001 rfl k1 k2))) x0 x1 (x2.del hit')
end
noncomputable def cnd (as bs:List Int) (fj:Int->Bool) (want:Bool) (p q:Int):Bool:=(fj (bs.getD q.toNat 0) == want) && (as.getD p.toNat 0 == bs.getD q.toNat 0)
noncomputable def down (c:Int->Int->Bool) (alo blo:Int):Nat->Best->Best
 | 0,b=>b
 | n + 1,b=>if b.1 > alo/\b.2.1 > blo/\c (b.1 - 1) (b.2.1 - 1)=true then down c alo blo n (b.1 - 1,b.2.1 - 1,b.2.2 + 1) else b
theorem Zdx {c:Int->Int->Bool}{alo blo:Int}{n:Nat}{b:Best}:down c alo blo (n + 1) b=if b.1 > alo/\b.2.1 > blo/\c (b.1 - 1) (b.2.1 - 1)=true then down c alo blo n (b.1 - 1,b.2.1 - 1,b.2.2 + 1) else b:=rfl
noncomputable def Za9 (c:Int->Int->Bool) (alo blo:Int) (b:Best):Best:=down c alo blo (b.1 - alo).toNat b
noncomputable def upX (c:Int->Int->Bool) (ahi bhi lb:Int):Nat->Best->Option Best
 | 0,b=>some b
 | n + 1,b=>if b.1 + b.2.2 < ahi/\b.2.1 + b.2.2 < bhi then (if lb<=b.2.1 + b.2.2 then none else if c (b.1 + b.2.2) (b.2.1 + b.2.2)=true then upX c ahi bhi lb n (b.1,b.2.1,b.2.2 + 1) else some b) else some b
theorem upX_s {c:Int->Int->Bool}{ahi bhi lb:Int}{n:Nat}{b:Best}:upX c ahi bhi lb (n + 1) b=if b.1 + b.2.2 < ahi/\b.2.1 + b.2.2 < bhi then (if lb<=b.2.1 + b.2.2 then none else if c (b.1 + b.2.2) (b.2.1 + b.2.2)=true then upX c ahi bhi lb n (b.1,b.2.1,b.2.2 + 1) else some b) else some b:=rfl
noncomputable def Zbl (c:Int->Int->Bool) (ahi bhi lb:Int) (b:Best):Option Best:=upX c ahi bhi lb (ahi - (b.1 + b.2.2)).toNat b
theorem Zhy {c:Int->Int->Bool}{ahi bhi lb:Int}{b:Best} (h:¬ (b.1 + b.2.2 < ahi/\b.2.1 + b.2.2 < bhi)):∀ n,upX c ahi bhi lb n b=some b
 | 0=>rfl
 | n + 1=>by rw[upX_s,if_neg h]
theorem Ziw {c:Int->Int->Bool}{ahi bhi lb:Int}{b:Best} (h:c (b.1 + b.2.2) (b.2.1 + b.2.2)≠true) (hl:¬ lb<=b.2.1 + b.2.2):∀ n,upX c ahi bhi lb n b=some b
 | 0=>rfl
 | n + 1=>by rw[upX_s,if_neg hl,if_neg h];exact ite_self _
theorem Zk3 {c:Int->Int->Bool}{ahi bhi lb:Int}{b:Best} (h:b.1 + b.2.2 < ahi) (h2:b.2.1 + b.2.2 < bhi) (hl:lb<=b.2.1 + b.2.2):upX c ahi bhi lb (ahi - (b.1 + b.2.2)).toNat b=none:=by rw[show (ahi - (b.1 + b.2.2)).toNat=(ahi - (b.1 + b.2.2)).toNat - 1 + 1 by (exact F03 0x67086987070671a870913a 0x10010010010010010010010101000110101100100101000 rfl h),upX_s,if_pos ⟨h,h2⟩,if_pos hl]
theorem Zo2 {c:Int->Int->Bool}{ahi bhi lb:Int}{b:Best} (h:b.1 + b.2.2 < ahi) (h2:b.2.1 + b.2.2 < bhi) (hl:¬ lb<=b.2.1 + b.2.2) (hc:c (b.1 + b.2.2) (b.2.1 + b.2.2)=true) :
  upX c ahi bhi lb (ahi - (b.1 + b.2.2)).toNat b=upX c ahi bhi lb (ahi - (b.1 + (b.2.2 + 1))).toNat (b.1,b.2.1,b.2.2 + 1):=by
 rw[show (ahi - (b.1 + b.2.2)).toNat=(ahi - (b.1 + (b.2.2 + 1))).toNat + 1 by (exact F03 0x6708698707068070913a870913a 0x100001010010100001010010101010110101100110101001 rfl h),upX_s,if_pos ⟨h,h2⟩,if_neg hl,if_pos hc]
structure InB (bs:List Int) (alo ahi blo:Int) (b:Best):Prop where
 a0:alo<=b.1
 b0:blo<=b.2.1
 k0 : 0<=b.2.2
 a1:b.1 > alo->b.1<=ahi
 b1:b.2.1 > blo->b.2.1<=bs.length
theorem InB.down {bs:List Int}{alo ahi blo:Int}{c:Int->Int->Bool}:∀ {n:Nat}{b:Best},InB bs alo ahi blo b->InB bs alo ahi blo (Mine.down c alo blo n b)
 | 0,b,h=>h
 | n + 1,b,h=>by
  rw[Zdx];split
  .rename_i hc;refine InB.down ⟨?_,?_,?_,?_,?_⟩
   .show alo<=b.1 - 1;(exact F02 0x681788770 0x11 rfl hc.1)
   .show blo<=b.2.1 - 1;(exact F02 0x681788770 0x11 rfl hc.2.1)
   .have:=h.k0;show 0<=b.2.2 + 1;(exact F01 0x67004870480 0x11 rfl this)
   .have:=h.a1 hc.1;intro _;show b.1 - 1<=_;(exact F02 0x867188780 0x11 rfl this)
   .have:=h.b1 hc.2.1;intro _;show b.2.1 - 1<=_;(exact F11 0x73671873780 0x11 rfl this)
  .exact h
theorem InB.upX {bs:List Int}{alo ahi' blo ahi bhi lb:Int}{c:Int->Int->Bool}:∀ {n:Nat}{b b':Best},InB bs alo ahi' blo b->Mine.upX c ahi bhi lb n b=some b'->InB bs alo ahi' blo b'
 | 0,b,b',h,e=>by cases e;exact h
 | n + 1,b,b',h,e=>by
  rw[upX_s]at e;split at e
  .split at e
   .cases e
   .split at e
    .refine InB.upX (b:=(b.1,b.2.1,b.2.2 + 1)) ⟨h.a0,h.b0,?_,h.a1,h.b1⟩ e;have:=h.k0;show 0<=b.2.2 + 1;lia
    .cases e;exact h
  .cases e;exact h
noncomputable def Zct:List String:=["besti", "bestj", "bestsize"]
section
variable {A:Around}{E:ET}{B:Shared}{m:Loc}{hp:Hp}
structure FL (B:Shared) (hp:Hp) (L aA bA ib j:Addr) (av:List AV) (bs:List Int) (fj:Int->Bool) (nj:Nat) (alo ahi blo bhi:Int) (m:Loc):Prop where
 h1:m (S "alo")=some (.int alo)
 h2:m (S "ahi")=some (.int ahi)
 h3:m (S "blo")=some (.int blo)
 h4:m (S "bhi")=some (.int bhi)
 h5:m (S "a")=some (.ref aA)
 h6:m (S "b")=some (.ref bA)
 h7:m (S "isbjunk")=some (.ref ib)
 l1:Lst B hp L aA av
 l2:Lst B hp L bA (bs.map .int)
 i1:hp ib=some (.obj (Zax "set.__contains__" j))
 i1L:ib≠L
 i2:hp j=some (.set fj nj)
 i2L:j≠L
 r1 : 0<=alo
 r2 : 0<=blo
 r3:Ints av alo ahi
 r4:ahi < 2 ^ 62
 r5:bhi < 2 ^ 62
 r6:bs.length<=4000
theorem FL.upd {L aA bA ib j:Addr}{av:List AV}{bs:List Int}{fj:Int->Bool}{nj:Nat}{alo ahi blo bhi:Int} (F:FL B hp L aA bA ib j av bs fj nj alo ahi blo bhi m) {m':Loc} (h:∀ y,y ∉ Zct->m' (S y)=m (S y)):FL B hp L aA bA ib j av bs fj nj alo ahi blo bhi m':=
 { F with h1:=by rw[h _ (by decide)];exact F.h1,h2:=by rw[h _ (by decide)];exact F.h2,h3:=by rw[h _ (by decide)];exact F.h3,h4:=by rw[h _ (by decide)];exact F.h4,h5:=by rw[h _ (by decide)];exact F.h5,h6:=by rw[h _ (by decide)];exact F.h6,h7:=by rw[h _ (by decide)];exact F.h7 }
theorem Za5 {l:List Int}{i:Int} (h0 : 0<=i) (h1:i < l.length):(l.map AV.int)[i.toNat]?=some (.int (l.getD i.toNat 0)):=by
 have:i.toNat < l.length:=by (exact Zgh ‹_› ‹_›)
 simp[List.getD,List.getElem?_eq_getElem this]
theorem Ints.get {av:List AV}{lo hi k:Int} (h:Ints av lo hi) (h0:lo<=k) (h1:k < hi):av[k.toNat]?=some (.int ((av.map toI).getD k.toNat 0)):=by obtain ⟨x,e⟩:=h k h0 h1;rw[e,List.getD_eq_getElem?_getD,List.getElem?_map,e];rfl
theorem Zps {L aA bA ib j:Addr}{av:List AV}{bs:List Int}{fj:Int->Bool}{nj:Nat}{alo ahi blo bhi:Int}{b:Best}{KK:QX} (hh:A.handled=none) (hE:PassesOwn (model PW W0) A (callEnv Za2 L 196) E) (F:FL B hp L aA bA ib j av bs fj nj alo ahi blo bhi m) (hb:Zbh m b) (I:InB bs alo ahi blo b)
  (hK:∀ m',(∀ y,y ∉ Zct->m' (S y)=m (S y))->Zbh m' (Za9 (cnd (av.map toI) bs fj false) alo blo b)->KK .next m' hp) :
  EX (model PW W0) A E B (callEnv Za2 L 196) (flmS 8) m hp KK:=by
 let Iq:Nat->Loc->Hp->Prop:=λn m₂ hp₂=>hp₂=hp/\(∀ y,y ∉ Zct->m₂ (S y)=m (S y))/\∃ b',Zbh m₂ b'/\InB bs alo ahi blo b'/\n=(b'.1 - alo).toNat/\down (cnd (av.map toI) bs fj false) alo blo n b'=Za9 (cnd (av.map toI) bs fj false) alo blo b;refine Zcl (hE:=hE) (Iq) (b.1 - alo).toNat ⟨rfl,λ_ _=>rfl,b,hb,I,rfl,rfl⟩ ?_;rintro n m₂ hp₂ ⟨rfl,x0,b',⟨b1,b2,b3⟩,I',rfl,x1⟩;have F':=F.upd x0;obtain ⟨h1,h2,h3,h4,h5,h6,h7,l1,l2,i1,i1L,i2,i2L,r1,r2,r3,r4,r5,r6⟩:=F';have leave:¬ (b'.1 > alo/\b'.2.1 > blo/\cnd (av.map toI) bs fj false (b'.1 - 1) (b'.2.1 - 1)=true)->KK .next m₂ hp₂:=λhc=>by
  refine hK _ x0 ?_;rw[<-x1];cases hn:(b'.1 - alo).toNat with
  | zero=>exact ⟨b1,b2,b3⟩
  | succ k=>rw[Zdx];rw[if_neg hc];exact ⟨b1,b2,b3⟩
 refine Zc9 λKT hKT=>?_;have out:¬ (b'.1 > alo/\b'.2.1 > blo/\cnd (av.map toI) bs fj false (b'.1 - 1) (b'.2.1 - 1)=true)->KT false hp₂:=λhc=>hKT _ _ (if_f (leave hc));refine Zaw ?_;refine Zag ?_;refine Zaf ?_;refine Zaa (by first | assumption | rfl) ?_;refine Zaa (by first | assumption | rfl) ?_;refine Zic ?_;refine Zaj ?_;by_cases c1:alo < b'.1
 .refine Zb1 c1 ?_;refine Zag ?_;refine Zaf ?_;refine Zaa (by first | assumption | rfl) ?_;refine Zaa (by first | assumption | rfl) ?_;refine Zic ?_;refine Zaj ?_;by_cases c2:blo < b'.2.1
  .refine Zb1 c2 ?_;have ha:=I'.a1 c1;have hb':=I'.b1 c2;refine Zag (Zgx (Za3 (Zb3 (id := "set.__contains__") (Zaa h7 ⟨ib,j,rfl,i1L,?_⟩))));refine Zab ?_;refine Zai ?_;refine Zaa (by first | assumption | rfl) ?_;refine Zad ?_;refine Zaa (by first | assumption | rfl) ?_;refine Zah ?_;refine Za6 ?_;refine Zar l2 (by (exact F02 0x681048877070480 0x111 rfl r2 c2)) (by lia) (Za5 (by lia) (by (exact F11 0x73671773780 0x11 rfl hb'))) ?_;refine Zae ?_;refine ⟨i1,Zhw i1 i1L i2 i2L ?_⟩;refine Zaj ?_;cases c3:fj (bs.getD (b'.2.1 - 1).toNat 0) with
   | true=>
    refine Znw (show (!true)=false from rfl) ?_;exact out (λh=>by have:=h.2.2;unfold cnd at this;rw[c3]at this;simp at this)
   | false=>
    refine Znv (show (!false)=true from rfl) ?_;refine Zag ?_;refine Zaf ?_;refine Zai ?_;refine Zaa (by first | assumption | rfl) ?_;refine Zad ?_;refine Zaa (by first | assumption | rfl) ?_;refine Zah ?_;refine Za6 ?_;refine Zar l1 (by (exact F02 0x681048877070480 0x111 rfl r1 c1)) (by lia) (Ints.get r3 (by (exact F02 0x681788770 0x11 rfl c1)) (by (exact F02 0x867178780 0x11 rfl ha))) ?_;refine Zai ?_;refine Zaa (by first | assumption | rfl) ?_;refine Zad ?_;refine Zaa (by first | assumption | rfl) ?_;refine Zah ?_;refine Za6 ?_;refine Zar l2 (by lia) (by lia) (Za5 (by lia) (by lia)) ?_;refine Ze8 ?_;refine Zaj ?_;cases c4:((av.map toI).getD (b'.1 - 1).toNat 0 == bs.getD (b'.2.1 - 1).toNat 0) with
    | false=>
     refine if_f ?_;exact out (λh=>by have:=h.2.2;unfold cnd at this;rw[c4]at this;simp at this)
    | true=>
     refine if_t ?_;refine Za0 (hKT _ _ ?_);refine if_t ?_;refine Zb0 λKB hKB=>?_;refine Zac (Za4 hh (names:=[S "besti",S "bestj",S "bestsize"]) ?_);refine Zan ?_;refine Zab ?_;refine Zad ?_;refine Zaa (by first | assumption | rfl) ?_;refine Zah ?_;refine Za6 ?_;refine Zab ?_;refine Zad ?_;refine Zaa (by first | assumption | rfl) ?_;refine Zah ?_;refine Za6 ?_;refine Zab ?_;refine Zad ?_;refine Zaa (by first | assumption | rfl) ?_;refine Zah ?_;refine Zap ?_;refine Zae ?_;refine ⟨sz rfl,?_⟩;refine ⟨_,rfl,rfl,Zas (Zas (Zas (Zav ?_)))⟩;refine Zal ?_;have hc:b'.1 > alo/\b'.2.1 > blo/\cnd (av.map toI) bs fj false (b'.1 - 1) (b'.2.1 - 1)=true:=⟨c1,c2,by unfold cnd;rw[c3,c4];rfl⟩;refine hKB _ _ _ ⟨(b'.1 - 1 - alo).toNat,by (exact Ziy ‹_›),rfl,λy hy=>?_,(b'.1 - 1,b'.2.1 - 1,b'.2.2 + 1),⟨by first | assumption | rfl,by first | assumption | rfl,by first | assumption | rfl⟩,?_,rfl,?_⟩
     .exact updO hy (updO hy (updO hy (x0 y hy)))
     .have:=I'.k0;exact ⟨by show alo<=b'.1 - 1;lia,by show blo<=b'.2.1 - 1;(exact F02 0x681788770 0x11 rfl c2),by show 0<=b'.2.2 + 1;lia,λ_=>by show b'.1 - 1<=_;lia,λ_=>by show b'.2.1 - 1<=_;lia⟩
     .rw [<-x1];have e:(b'.1 - alo).toNat=(b'.1 - 1 - alo).toNat + 1:=by (exact F02 0x670868770768113a7813a 0x100001010010100001010010101010110101100110101001 rfl c1)
      rw[e]
      conv=>rhs;rw[Zdx]
      rw[if_pos hc]
  .refine Zbu c2 ?_;exact out (λh=>c2 h.2.1)
 .refine Zbu c1 ?_;exact out (λh=>c1 h.1)
theorem Zpq {L aA bA ib j:Addr}{av:List AV}{bs:List Int}{fj:Int->Bool}{nj:Nat}{alo ahi blo bhi:Int}{b:Best}{KK:QX} (hh:A.handled=none) (hE:PassesOwn (model PW W0) A (callEnv Za2 L 196) E) (F:FL B hp L aA bA ib j av bs fj nj alo ahi blo bhi m) (hb:Zbh m b) (I:InB bs alo ahi blo b)
  (hK:∀ m',(∀ y,y ∉ Zct->m' (S y)=m (S y))->Zbh m' (Za9 (cnd (av.map toI) bs fj true) alo blo b)->KK .next m' hp) :
  EX (model PW W0) A E B (callEnv Za2 L 196) (flmS 10) m hp KK:=by
 let Iq:Nat->Loc->Hp->Prop:=λn m₂ hp₂=>hp₂=hp/\(∀ y,y ∉ Zct->m₂ (S y)=m (S y))/\∃ b',Zbh m₂ b'/\InB bs alo ahi blo b'/\n=(b'.1 - alo).toNat/\down (cnd (av.map toI) bs fj true) alo blo n b'=Za9 (cnd (av.map toI) bs fj true) alo blo b;refine Zcl (hE:=hE) (Iq) (b.1 - alo).toNat ⟨rfl,λ_ _=>rfl,b,hb,I,rfl,rfl⟩ ?_;rintro n m₂ hp₂ ⟨rfl,x0,b',⟨b1,b2,b3⟩,I',rfl,x1⟩;have F':=F.upd x0;obtain ⟨h1,h2,h3,h4,h5,h6,h7,l1,l2,i1,i1L,i2,i2L,r1,r2,r3,r4,r5,r6⟩:=F';have leave:¬ (b'.1 > alo/\b'.2.1 > blo/\cnd (av.map toI) bs fj true (b'.1 - 1) (b'.2.1 - 1)=true)->KK .next m₂ hp₂:=λhc=>by
  refine hK _ x0 ?_;rw[<-x1];cases hn:(b'.1 - alo).toNat with
  | zero=>exact ⟨b1,b2,b3⟩
  | succ k=>rw[Zdx];rw[if_neg hc];exact ⟨b1,b2,b3⟩
 refine Zc9 λKT hKT=>?_;have out:¬ (b'.1 > alo/\b'.2.1 > blo/\cnd (av.map toI) bs fj true (b'.1 - 1) (b'.2.1 - 1)=true)->KT false hp₂:=λhc=>hKT _ _ (if_f (leave hc));refine Zaw ?_;refine Zag ?_;refine Zaf ?_;refine Zaa (by first | assumption | rfl) ?_;refine Zaa (by first | assumption | rfl) ?_;refine Zic ?_;refine Zaj ?_;by_cases c1:alo < b'.1
 .refine Zb1 c1 ?_;refine Zag ?_;refine Zaf ?_;refine Zaa (by first | assumption | rfl) ?_;refine Zaa (by first | assumption | rfl) ?_;refine Zic ?_;refine Zaj ?_;by_cases c2:blo < b'.2.1
  .refine Zb1 c2 ?_;have ha:=I'.a1 c1;have hb':=I'.b1 c2;refine Zag (Za3 (Zb3 (id := "set.__contains__") (Zaa h7 ⟨ib,j,rfl,i1L,?_⟩)));refine Zab ?_;refine Zai ?_;refine Zaa (by first | assumption | rfl) ?_;refine Zad ?_;refine Zaa (by first | assumption | rfl) ?_;refine Zah ?_;refine Za6 ?_;refine Zar l2 (by lia) (by lia) (Za5 (by lia) (by lia)) ?_;refine Zae ?_;refine ⟨i1,Zhw i1 i1L i2 i2L ?_⟩;refine Zaj ?_;cases c3:fj (bs.getD (b'.2.1 - 1).toNat 0) with
   | false=>
    refine if_f ?_;exact out (λh=>by have:=h.2.2;unfold cnd at this;rw[c3]at this;simp at this)
   | true=>
    refine if_t ?_;refine Zag ?_;refine Zaf ?_;refine Zai ?_;refine Zaa (by first | assumption | rfl) ?_;refine Zad ?_;refine Zaa (by first | assumption | rfl) ?_;refine Zah ?_;refine Za6 ?_;refine Zar l1 (by lia) (by lia) (Ints.get r3 (by lia) (by lia)) ?_;refine Zai ?_;refine Zaa (by first | assumption | rfl) ?_;refine Zad ?_;refine Zaa (by first | assumption | rfl) ?_;refine Zah ?_;refine Za6 ?_;refine Zar l2 (by lia) (by lia) (Za5 (by lia) (by lia)) ?_;refine Ze8 ?_;refine Zaj ?_;cases c4:((av.map toI).getD (b'.1 - 1).toNat 0 == bs.getD (b'.2.1 - 1).toNat 0) with
    | false=>
     refine if_f ?_;exact out (λh=>by have:=h.2.2;unfold cnd at this;rw[c4]at this;simp at this)
    | true=>
     refine if_t ?_;refine Za0 (hKT _ _ ?_);refine if_t ?_;refine Zb0 λKB hKB=>?_;refine Zac (Za4 hh (names:=[S "besti",S "bestj",S "bestsize"]) ?_);refine Zan ?_;refine Zab ?_;refine Zad ?_;refine Zaa (by first | assumption | rfl) ?_;refine Zah ?_;refine Za6 ?_;refine Zab ?_;refine Zad ?_;refine Zaa (by first | assumption | rfl) ?_;refine Zah ?_;refine Za6 ?_;refine Zab ?_;refine Zad ?_;refine Zaa (by first | assumption | rfl) ?_;refine Zah ?_;refine Zap ?_;refine Zae ?_;refine ⟨sz rfl,?_⟩;refine ⟨_,rfl,rfl,Zas (Zas (Zas (Zav ?_)))⟩;refine Zal ?_;have hc:b'.1 > alo/\b'.2.1 > blo/\cnd (av.map toI) bs fj true (b'.1 - 1) (b'.2.1 - 1)=true:=⟨c1,c2,by unfold cnd;rw[c3,c4];rfl⟩;refine hKB _ _ _ ⟨(b'.1 - 1 - alo).toNat,by (exact Ziy ‹_›),rfl,λy hy=>?_,(b'.1 - 1,b'.2.1 - 1,b'.2.2 + 1),⟨by first | assumption | rfl,by first | assumption | rfl,by first | assumption | rfl⟩,?_,rfl,?_⟩
     .exact updO hy (updO hy (updO hy (x0 y hy)))
     .have:=I'.k0;exact ⟨by show alo<=b'.1 - 1;lia,by show blo<=b'.2.1 - 1;lia,by show 0<=b'.2.2 + 1;lia,λ_=>by show b'.1 - 1<=_;lia,λ_=>by show b'.2.1 - 1<=_;lia⟩
     .rw [<-x1];have e:(b'.1 - alo).toNat=(b'.1 - 1 - alo).toNat + 1:=by (exact F02 0x670868770768113a7813a 0x100001010010100001010010101010110101100110101001 rfl c1)
      rw[e]
      conv=>rhs;rw[Zdx]
      rw[if_pos hc]
  .refine Zbu c2 ?_;exact out (λh=>c2 h.2.1)
 .refine Zbu c1 ?_;exact out (λh=>c1 h.1)
theorem Zpr {L aA bA ib j:Addr}{av:List AV}{bs:List Int}{fj:Int->Bool}{nj:Nat}{alo ahi blo bhi:Int}{b:Best}{KK:QX}{hbs:Hp} (hh:A.handled=none) (hE:PassesOwn (model PW W0) A (callEnv Za2 L 196) E) (F:FL B hp L aA bA ib j av bs fj nj alo ahi blo bhi m) (hb:Zbh m b) (I:InB bs alo ahi blo b)
  (T:Zbl (cnd (av.map toI) bs fj false) ahi bhi bs.length b=none->THR E B (callEnv Za2 L 196) hbs "IndexError") (hbl:Hp.Le hbs hp)
  (hK:∀ m' b',Zbl (cnd (av.map toI) bs fj false) ahi bhi bs.length b=some b'->(∀ y,y ∉ Zct->m' (S y)=m (S y))->Zbh m' b'->KK .next m' hp) :
  EX (model PW W0) A E B (callEnv Za2 L 196) (flmS 9) m hp KK:=by
 let Iq:Nat->Loc->Hp->Prop:=λn m₂ hp₂=>hp₂=hp/\(∀ y,y ∉ Zct->m₂ (S y)=m (S y))/\∃ b',Zbh m₂ b'/\InB bs alo ahi blo b'/\n=(ahi - (b'.1 + b'.2.2)).toNat/\upX (cnd (av.map toI) bs fj false) ahi bhi bs.length n b'=Zbl (cnd (av.map toI) bs fj false) ahi bhi bs.length b;refine Zcl (hE:=hE) (Iq) (ahi - (b.1 + b.2.2)).toNat ⟨rfl,λ_ _=>rfl,b,hb,I,rfl,rfl⟩ ?_;rintro n m₂ hp₂ ⟨rfl,x0,b',⟨b1,b2,b3⟩,I',rfl,x1⟩;have F':=F.upd x0;obtain ⟨h1,h2,h3,h4,h5,h6,h7,l1,l2,i1,i1L,i2,i2L,r1,r2,r3,r4,r5,r6⟩:=F';have leave:upX (cnd (av.map toI) bs fj false) ahi bhi bs.length (ahi - (b'.1 + b'.2.2)).toNat b'=some b'->KK .next m₂ hp₂:=λhc=>hK _ b' (by rw[<-x1];exact hc) x0 ⟨b1,b2,b3⟩;refine Zc9 λKT hKT=>?_;have out:upX (cnd (av.map toI) bs fj false) ahi bhi bs.length (ahi - (b'.1 + b'.2.2)).toNat b'=some b'->KT false hp₂:=λhc=>hKT _ _ (if_f (leave hc));refine Zaw ?_;refine Zag ?_;refine Zaf ?_;refine Zad ?_;refine Zaa (by first | assumption | rfl) ?_;refine Zaa (by first | assumption | rfl) ?_;refine Zap ?_;refine Zaa (by first | assumption | rfl) ?_;refine Zea ?_;refine Zaj ?_;by_cases c1:b'.1 + b'.2.2 < ahi
 .refine Zb1 c1 ?_;refine Zag ?_;refine Zaf ?_;refine Zad ?_;refine Zaa (by first | assumption | rfl) ?_;refine Zaa (by first | assumption | rfl) ?_;refine Zap ?_;refine Zaa (by first | assumption | rfl) ?_;refine Zea ?_;refine Zaj ?_;by_cases c2:b'.2.1 + b'.2.2 < bhi
  .refine Zb1 c2 ?_;have ha:=I'.a0;have hb':=I'.b0;have hk:=I'.k0;refine Zag (Zgx (Za3 (Zb3 (id := "set.__contains__") (Zaa h7 ⟨ib,j,rfl,i1L,?_⟩))));refine Zab ?_;refine Zai ?_;refine Zaa (by first | assumption | rfl) ?_;refine Zad ?_;refine Zaa (by first | assumption | rfl) ?_;refine Zaa (by first | assumption | rfl) ?_;refine Zap ?_;by_cases c5:(bs.length:Int)<=b'.2.1 + b'.2.2
   .exact Zgz hh (T (by rw[<-x1];exact Zk3 c1 c2 c5)) hbl l2 (by rw[List.length_map];exact c5) (by lia)
   refine Zar l2 (by (exact F03 0x98004890480878070480 0x1111 rfl r2 hb' hk)) (by lia) (Za5 (by lia) (by (exact Int.not_le.mp ‹_›))) ?_;refine Zae ?_;refine ⟨i1,Zhw i1 i1L i2 i2L ?_⟩;refine Zaj ?_;cases c3:fj (bs.getD (b'.2.1 + b'.2.2).toNat 0) with
   | true=>
    refine Znw (show (!true)=false from rfl) ?_;exact out (Ziw (by unfold cnd;rw[c3];simp) c5 _)
   | false=>
    refine Znv (show (!false)=true from rfl) ?_;refine Zag ?_;refine Zaf ?_;refine Zai ?_;refine Zaa (by first | assumption | rfl) ?_;refine Zad ?_;refine Zaa (by first | assumption | rfl) ?_;refine Zaa (by first | assumption | rfl) ?_;refine Zap ?_;refine Zar l1 (by (exact F03 0x98004890480878070480 0x1111 rfl r1 ha hk)) (by lia) (Ints.get r3 (by (exact F03 0x98078904808780 0x111 rfl ha hk)) (by omega)) ?_;refine Zai ?_;refine Zaa (by first | assumption | rfl) ?_;refine Zad ?_;refine Zaa (by first | assumption | rfl) ?_;refine Zaa (by first | assumption | rfl) ?_;refine Zap ?_;refine Zar l2 (by lia) (by lia) (Za5 (by lia) (by (exact Int.not_le.mp ‹_›))) ?_;refine Ze8 ?_;refine Zaj ?_;cases c4:((av.map toI).getD (b'.1 + b'.2.2).toNat 0 == bs.getD (b'.2.1 + b'.2.2).toNat 0) with
    | false=>
     refine if_f ?_;exact out (Ziw (by unfold cnd;rw[c4];simp) c5 _)
    | true=>
     refine if_t ?_;refine Za0 (hKT _ _ ?_);refine if_t ?_;refine Zb0 λKB hKB=>?_;refine Zac ?_;refine Zbd (by first | assumption | rfl) ?_;refine Zah ?_;refine Ze7 ?_;refine Zal ?_;have hc:cnd (av.map toI) bs fj false (b'.1 + b'.2.2) (b'.2.1 + b'.2.2)=true:=by unfold cnd;rw[c3,c4];rfl
     refine hKB _ _ _ ⟨(ahi - (b'.1 + (b'.2.2 + 1))).toNat,by (exact F03 0x784987070870913a68070913a 0x11000110101011000100110 rfl c1),rfl,λy hy=>?_,(b'.1,b'.2.1,b'.2.2 + 1),⟨by first | assumption | rfl,by first | assumption | rfl,by first | assumption | rfl⟩,?_,rfl,?_⟩
     .exact updO hy (x0 y hy)
     .exact ⟨I'.a0,I'.b0,by show 0<=b'.2.2 + 1;lia,I'.a1,I'.b1⟩
     .rw [<-x1];exact (Zo2 c1 c2 c5 hc).symm
  .refine Zbu c2 ?_;exact out (Zhy (λh=>c2 h.2) _)
 .refine Zbu c1 ?_;exact out (Zhy (λh=>c1 h.1) _)
theorem Zpp {L aA bA ib j:Addr}{av:List AV}{bs:List Int}{fj:Int->Bool}{nj:Nat}{alo ahi blo bhi:Int}{b:Best}{KK:QX}{hbs:Hp} (hh:A.handled=none) (hE:PassesOwn (model PW W0) A (callEnv Za2 L 196) E) (F:FL B hp L aA bA ib j av bs fj nj alo ahi blo bhi m) (hb:Zbh m b) (I:InB bs alo ahi blo b)
  (T:Zbl (cnd (av.map toI) bs fj true) ahi bhi bs.length b=none->THR E B (callEnv Za2 L 196) hbs "IndexError") (hbl:Hp.Le hbs hp)
  (hK:∀ m' b',Zbl (cnd (av.map toI) bs fj true) ahi bhi bs.length b=some b'->(∀ y,y ∉ Zct->m' (S y)=m (S y))->Zbh m' b'->KK .next m' hp) :
  EX (model PW W0) A E B (callEnv Za2 L 196) (flmS 11) m hp KK:=by
 let Iq:Nat->Loc->Hp->Prop:=λn m₂ hp₂=>hp₂=hp/\(∀ y,y ∉ Zct->m₂ (S y)=m (S y))/\∃ b',Zbh m₂ b'/\InB bs alo ahi blo b'/\n=(ahi - (b'.1 + b'.2.2)).toNat/\upX (cnd (av.map toI) bs fj true) ahi bhi bs.length n b'=Zbl (cnd (av.map toI) bs fj true) ahi bhi bs.length b;refine Zcl (hE:=hE) (Iq) (ahi - (b.1 + b.2.2)).toNat ⟨rfl,λ_ _=>rfl,b,hb,I,rfl,rfl⟩ ?_;rintro n m₂ hp₂ ⟨rfl,x0,b',⟨b1,b2,b3⟩,I',rfl,x1⟩;have F':=F.upd x0;obtain ⟨h1,h2,h3,h4,h5,h6,h7,l1,l2,i1,i1L,i2,i2L,r1,r2,r3,r4,r5,r6⟩:=F';have leave:upX (cnd (av.map toI) bs fj true) ahi bhi bs.length (ahi - (b'.1 + b'.2.2)).toNat b'=some b'->KK .next m₂ hp₂:=λhc=>hK _ b' (by rw[<-x1];exact hc) x0 ⟨b1,b2,b3⟩;refine Zc9 λKT hKT=>?_;have out:upX (cnd (av.map toI) bs fj true) ahi bhi bs.length (ahi - (b'.1 + b'.2.2)).toNat b'=some b'->KT false hp₂:=λhc=>hKT _ _ (if_f (leave hc));refine Zaw ?_;refine Zag ?_;refine Zaf ?_;refine Zad ?_;refine Zaa (by first | assumption | rfl) ?_;refine Zaa (by first | assumption | rfl) ?_;refine Zap ?_;refine Zaa (by first | assumption | rfl) ?_;refine Zea ?_;refine Zaj ?_;by_cases c1:b'.1 + b'.2.2 < ahi
 .refine Zb1 c1 ?_;refine Zag ?_;refine Zaf ?_;refine Zad ?_;refine Zaa (by first | assumption | rfl) ?_;refine Zaa (by first | assumption | rfl) ?_;refine Zap ?_;refine Zaa (by first | assumption | rfl) ?_;refine Zea ?_;refine Zaj ?_;by_cases c2:b'.2.1 + b'.2.2 < bhi
  .refine Zb1 c2 ?_;have ha:=I'.a0;have hb':=I'.b0;have hk:=I'.k0;refine Zag (Za3 (Zb3 (id := "set.__contains__") (Zaa h7 ⟨ib,j,rfl,i1L,?_⟩)));refine Zab ?_;refine Zai ?_;refine Zaa (by first | assumption | rfl) ?_;refine Zad ?_;refine Zaa (by first | assumption | rfl) ?_;refine Zaa (by first | assumption | rfl) ?_;refine Zap ?_;by_cases c5:(bs.length:Int)<=b'.2.1 + b'.2.2
   .exact Zgz hh (T (by rw[<-x1];exact Zk3 c1 c2 c5)) hbl l2 (by rw[List.length_map];exact c5) (by lia)
   refine Zar l2 (by lia) (by lia) (Za5 (by lia) (by (exact Int.not_le.mp ‹_›))) ?_;refine Zae ?_;refine ⟨i1,Zhw i1 i1L i2 i2L ?_⟩;refine Zaj ?_;cases c3:fj (bs.getD (b'.2.1 + b'.2.2).toNat 0) with
   | false=>
    refine if_f ?_;exact out (Ziw (by unfold cnd;rw[c3];simp) c5 _)
   | true=>
    refine if_t ?_;refine Zag ?_;refine Zaf ?_;refine Zai ?_;refine Zaa (by first | assumption | rfl) ?_;refine Zad ?_;refine Zaa (by first | assumption | rfl) ?_;refine Zaa (by first | assumption | rfl) ?_;refine Zap ?_;refine Zar l1 (by lia) (by lia) (Ints.get r3 (by lia) (by omega)) ?_;refine Zai ?_;refine Zaa (by first | assumption | rfl) ?_;refine Zad ?_;refine Zaa (by first | assumption | rfl) ?_;refine Zaa (by first | assumption | rfl) ?_;refine Zap ?_;refine Zar l2 (by lia) (by lia) (Za5 (by lia) (by (exact Int.not_le.mp ‹_›))) ?_;refine Ze8 ?_;refine Zaj ?_;cases c4:((av.map toI).getD (b'.1 + b'.2.2).toNat 0 == bs.getD (b'.2.1 + b'.2.2).toNat 0) with
    | false=>
     refine if_f ?_;exact out (Ziw (by unfold cnd;rw[c4];simp) c5 _)
    | true=>
     refine if_t ?_;refine Za0 (hKT _ _ ?_);refine if_t ?_;refine Zb0 λKB hKB=>?_;refine Zac ?_;refine Zaq ?_;refine Zad ?_;refine Zaa (by first | assumption | rfl) ?_;refine Zah ?_;refine Zap ?_;refine Zal ?_;have hc:cnd (av.map toI) bs fj true (b'.1 + b'.2.2) (b'.2.1 + b'.2.2)=true:=by unfold cnd;rw[c3,c4];rfl
     refine hKB _ _ _ ⟨(ahi - (b'.1 + (b'.2.2 + 1))).toNat,by lia,rfl,λy hy=>?_,(b'.1,b'.2.1,b'.2.2 + 1),⟨by first | assumption | rfl,by first | assumption | rfl,by first | assumption | rfl⟩,?_,rfl,?_⟩
     .exact updO hy (x0 y hy)
     .exact ⟨I'.a0,I'.b0,by show 0<=b'.2.2 + 1;lia,I'.a1,I'.b1⟩
     .rw [<-x1];exact (Zo2 c1 c2 c5 hc).symm
  .refine Zbu c2 ?_;exact out (Zhy (λh=>c2 h.2) _)
 .refine Zbu c1 ?_;exact out (Zhy (λh=>c1 h.1) _)
end
noncomputable def MJ (as:List Int) (J:Int->List Nat) (p q:Int):Prop:=∃ j ∈ J (as.getD p.toNat 0),(j:Int)=q
open Classical in
noncomputable def LL (M:Int->Int->Prop) (alo blo bhi:Int):Nat->Int->Int
 | 0,_=>0
 | n + 1,j=>if blo<=j/\j < bhi/\M (alo + n) j then LL M alo blo bhi n (j - 1) + 1 else 0
theorem LL_z {M:Int->Int->Prop}{alo blo bhi j:Int}:LL M alo blo bhi 0 j=0:=rfl
open Classical in
theorem LL_s {M:Int->Int->Prop}{alo blo bhi j:Int}{n:Nat}:LL M alo blo bhi (n + 1) j=if blo<=j/\j < bhi/\M (alo + n) j then LL M alo blo bhi n (j - 1) + 1 else 0:=rfl
theorem Zd1 {M:Int->Int->Prop}{alo blo bhi:Int}:∀ (n:Nat) (j:Int),0<=LL M alo blo bhi n j
 | 0,j=>by simp[LL_z]
 | n + 1,j=>by have:=Zd1 (M:=M) (alo:=alo) (blo:=blo) (bhi:=bhi) n (j - 1);rw[LL_s];split <;> (first | exact F01 0x67004870480 0x11 rfl this | exact F00 0x4048 0x1 rfl)
theorem Zp7 {M:Int->Int->Prop}{alo blo bhi:Int}:∀ (n:Nat) (j:Int),LL M alo blo bhi n j<=n
 | 0,j=>by simp[LL_z]
 | n + 1,j=>by have:=Zp7 (M:=M) (alo:=alo) (blo:=blo) (bhi:=bhi) n (j - 1);rw[LL_s];split <;> (first | exact F11 0x6703670873780 0x11 rfl this | exact F10 0x6703048 0x1 rfl)
theorem Zp8 {M:Int->Int->Prop}{alo blo bhi:Int}:∀ (n:Nat) (j t:Int),0<=t->t < LL M alo blo bhi n j->M (alo + n - 1 - t) (j - t)/\blo<=j - t/\j < bhi
 | 0,j,t,h0,h1=>by simp[LL_z]at h1;exact ⟨by omega,by omega,by omega⟩
 | n + 1,j,t,h0,h1=>by
  rw[LL_s]at h1;split at h1
  .rename_i hc;by_cases ht:t=0
   .subst ht;refine ⟨?_,by (exact F02 0x481788780 0x11 rfl hc.1),hc.2.1⟩;have e1:alo + ((n + 1:Nat):Int) - 1 - 0=alo + n:=by (exact F11 0x7370046670370119 0x11 rfl)
    have e2:j - 0=j:=by lia
    rw[e1,e2];exact hc.2.2
   .have:=Zp8 (M:=M) (alo:=alo) (blo:=blo) (bhi:=bhi) n (j - 1) (t - 1) (by (exact F01 0x67104870480047920 0x101011 rfl ht h0)) (by (exact F02 0x86717680770 0x11 rfl h1));have e1:alo + ((n + 1:Nat):Int) - 1 - t=alo + n - 1 - (t - 1):=by (exact F12 0x681673701186670370119 0x11 rfl)
    have e2:j - t=j - 1 - (t - 1):=by (exact F02 0x68167118719 0x11 rfl)
    rw[e1,e2];exact ⟨this.1,by (exact F03 0x6916811786916811780 0x11 rfl this.2.1),hc.2.1⟩
  .exact ⟨by omega,by omega,by omega⟩
theorem Zp9 {M:Int->Int->Prop}{alo blo bhi:Int}:∀ (n:Nat) (j k:Int),k<=n->blo<=j - k + 1->j < bhi->(∀ t,0<=t->t < k->M (alo + n - 1 - t) (j - t))->k<=LL M alo blo bhi n j
 | 0,j,k,h1,_,_,_=>by simp[LL_z];omega
 | n + 1,j,k,h1,h2,h3,h=>by
  by_cases hk:k<=0
  .exact Int.le_trans hk (Zd1 _ _)
  .have h0:=h 0 (by (exact Int.natCast_nonneg _)) (by (exact Int.not_le.mp ‹_›));have e1:alo + ((n + 1:Nat):Int) - 1 - 0=alo + n:=by lia
   have e2:j - 0=j:=by lia
   rw[e1,e2]at h0;have:=Zp9 (M:=M) (alo:=alo) (blo:=blo) (bhi:=bhi) n (j - 1) (k - 1) (by (exact F11 0x7367186703780 0x11 rfl h1)) (by (exact F03 0x6691681107869810780 0x11 rfl h2)) (by (exact F02 0x867178770 0x11 rfl h3)) λt ht0 ht1=>by
    have:=h (t + 1) (by (exact F01 0x67004870480 0x11 rfl ht0)) (by (exact F02 0x86707681770 0x11 rfl ht1));have e1:alo + ((n + 1:Nat):Int) - 1 - (t + 1)=alo + n - 1 - t:=by (exact F12 0x867370116806670370119 0x11 rfl)
    have e2:j - (t + 1)=j - 1 - t:=by (exact F02 0x86711680719 0x11 rfl)
    rw[e1,e2]at this;exact this
   rw[LL_s];rw[if_pos ⟨by (exact F03 0x87804982069810780 0x111 rfl h2 hk),h3,h0⟩]
   (exact F02 0x68078867180 0x11 rfl this)
theorem Zex {i blo bhi:Int}{f:Int->Int}:∀ {js:List Nat}{st:FSt},js.Pairwise (· < ·)->Zc4 i blo bhi f js st=(js.filter λ(j:Nat)=>decide (blo<=(j:Int)) && decide ((j:Int) < bhi)).foldl (λst (j:Nat)=>innS i f st (j:Int)) st
 | [],st,_=>rfl
 | j :: js,st,hp=>by
  rw[List.pairwise_cons]at hp;rw[inner_s];by_cases h1:(j:Int) < blo
  .rw [if_pos h1,Zex hp.2,List.filter_cons_of_neg (by simp;lia)]
  .rw [if_neg h1];by_cases h2:(j:Int)>=bhi
   .rw [if_pos h2,List.filter_cons_of_neg (by simp;lia)];have:js.filter (λ(j:Nat)=>decide (blo<=(j:Int)) && decide ((j:Int) < bhi))=[]:=by rw[List.filter_eq_nil_iff];intro a ha;have:=hp.1 a ha;simp;lia
    rw[this];rfl
   .rw [if_neg h2,Zex hp.2,List.filter_cons_of_pos (by simp;exact ⟨by (exact Int.not_lt.mp ‹_›),by (exact Int.not_le.mp ‹_›)⟩),List.foldl_cons]
noncomputable def BInv (alo blo:Int) (D:Int->Int->Prop) (V:Int->Int->Int) (b:Best):Prop:=
 (b=(alo,blo,0)/\∀ r j,¬ D r j) \/
 (0 < b.2.2/\D (b.1 + b.2.2 - 1) (b.2.1 + b.2.2 - 1)/\V (b.1 + b.2.2 - 1) (b.2.1 + b.2.2 - 1)=b.2.2/\∀ r j,D r j->V r j<=b.2.2/\(V r j=b.2.2->b.1 + b.2.2 - 1 < r\/(b.1 + b.2.2 - 1=r/\b.2.1 + b.2.2 - 1<=j)))
theorem BInv.congr {alo blo:Int}{D D':Int->Int->Prop}{V:Int->Int->Int}{b:Best} (h:BInv alo blo D V b) (e:∀ r j,D' r j ↔ D r j):BInv alo blo D' V b:=by
 have:D'=D:=by funext r j;exact propext (e r j)
 rw[this];exact h
theorem Zlz {alo blo r0:Int}{f:Int->Int}{V:Int->Int->Int}:∀ {js:List Nat}{D:Int->Int->Prop}{g:Int->Int}{b:Best},js.Pairwise (· < ·)->(∀ j ∈ js,V r0 (j:Int)=f ((j:Int) - 1) + 1)->(∀ x,0<=f x)->(∀ r j,D r j->r < r0\/(r=r0/\∀ j' ∈ js,j < (j':Int)))->BInv alo blo D V b ->
  BInv alo blo (λr j=>D r j\/(r=r0/\∃ j' ∈ js,(j':Int)=j)) V (js.foldl (λst (j:Nat)=>innS r0 f st (j:Int)) (g,b)).2 /\
  ∀ x,(js.foldl (λst (j:Nat)=>innS r0 f st (j:Int)) (g,b)).1 x=if ∃ j' ∈ js,((j':Nat):Int)=x then f (x - 1) + 1 else g x:=by
 intro r_
 induction r_ with
 | nil=>
  intro D g b _ _ _ _ h;exact ⟨h.congr λr j=>by simp,λx=>by simp⟩
 | cons j js ih=>
  intro D g b hp hV hf hD h;rw[List.pairwise_cons]at hp;rw[List.foldl_cons];have hv:=hV j (.head _);have hf0:=hf ((j:Int) - 1);have h':BInv alo blo (λr j'=>D r j'\/(r=r0/\j'=(j:Int))) V (innS r0 f (g,b) (j:Int)).2:=by
   unfold innS;dsimp only;rcases h with ⟨rfl,hno⟩ | ⟨h0,h1,h2,h3⟩
   .rw [if_pos (by show f ((j:Int) - 1) + 1 > 0;(exact F01 0x67004770480 0x11 rfl hf0))];refine .inr ⟨by show 0 < f ((j:Int) - 1) + 1;(exact F01 0x67004770480 0x11 rfl hf0),?_,?_,?_⟩
    .right;exact ⟨rk _ _,rk _ _⟩
    .show V (r0 - (f ((j:Int) - 1) + 1) + 1 + (f ((j:Int) - 1) + 1) - 1) ((j:Int) - (f ((j:Int) - 1) + 1) + 1 + (f ((j:Int) - 1) + 1) - 1)=f ((j:Int) - 1) + 1;have e1:r0 - (f ((j:Int) - 1) + 1) + 1 + (f ((j:Int) - 1) + 1) - 1=r0:=rk _ _;have e2:(j:Int) - (f ((j:Int) - 1) + 1) + 1 + (f ((j:Int) - 1) + 1) - 1=j:=rk _ _;rw[e1,e2];exact hv
    .rintro r j' (hd | ⟨rfl,rfl⟩)
     .exact absurd hd (hno r j')
     .exact ⟨by rw[hv];exact Int.le_refl _,λ_=>.inr ⟨rk _ _,Int.le_of_eq (rk _ _)⟩⟩
   .by_cases hgt:f ((j:Int) - 1) + 1 > b.2.2
    .rw [if_pos hgt];refine .inr ⟨by show 0 < f ((j:Int) - 1) + 1;(exact Int.lt_trans ‹_› ‹_›),?_,?_,?_⟩
     .right;exact ⟨rk _ _,rk _ _⟩
     .show V (r0 - (f ((j:Int) - 1) + 1) + 1 + (f ((j:Int) - 1) + 1) - 1) ((j:Int) - (f ((j:Int) - 1) + 1) + 1 + (f ((j:Int) - 1) + 1) - 1)=f ((j:Int) - 1) + 1;have e1:r0 - (f ((j:Int) - 1) + 1) + 1 + (f ((j:Int) - 1) + 1) - 1=r0:=rk _ _;have e2:(j:Int) - (f ((j:Int) - 1) + 1) + 1 + (f ((j:Int) - 1) + 1) - 1=j:=rk _ _;rw[e1,e2];exact hv
     .rintro r j' (hd | ⟨rfl,rfl⟩)
      .have:=(h3 r j' hd).1;refine ⟨by show V r j'<=f ((j:Int) - 1) + 1;(exact F03 0x680987980680770 0x111 rfl hgt this),λe=>?_⟩;have e':V r j'=f ((j:Int) - 1) + 1:=e;omega
      .exact ⟨by rw[hv];exact Int.le_refl _,λ_=>.inr ⟨rk _ _,Int.le_of_eq (rk _ _)⟩⟩
    .rw [if_neg hgt];refine .inr ⟨h0,.inl h1,h2,?_⟩;rintro r j' (hd | ⟨rfl,rfl⟩)
     .exact h3 r j' hd
     .refine ⟨by (exact F03 0x7986809906807720 0x1011 rfl hgt hv),λ_=>?_⟩;rcases hD _ _ h1 with hlt | ⟨he,hlt⟩
      .exact .inl hlt
      .exact .inr ⟨he,Int.le_of_lt (hlt j (.head _))⟩
  have ih:=ih (D:=λr j'=>D r j'\/(r=r0/\j'=(j:Int))) (g:=(innS r0 f (g,b) (j:Int)).1) (b:=(innS r0 f (g,b) (j:Int)).2) hp.2 (λj' hj'=>hV j' (.tail _ hj')) hf ?_ h'
  .refine ⟨ih.1.congr λr j'=>?_,λx=>?_⟩
   .simp only [List.mem_cons,exists_eq_or_imp];constructor
    .rintro (a | ⟨a,b | b⟩)
     .exact .inl (.inl a)
     .exact .inl (.inr ⟨a,b.symm⟩)
     .exact .inr ⟨a,b⟩
    .rintro ((a | ⟨a,b⟩) | ⟨a,b⟩)
     .exact .inl a
     .exact .inr ⟨a,.inl b.symm⟩
     .exact .inr ⟨a,.inr b⟩
   .rw [ih.2 x];by_cases hx:∃ j' ∈ js,((j':Nat):Int)=x
    .rw [if_pos hx,if_pos];obtain ⟨j',a,b⟩:=hx;exact ⟨j',.tail _ a,b⟩
    .rw [if_neg hx];show (if x=(j:Int) then f ((j:Int) - 1) + 1 else g x)=_;by_cases hxj:x=(j:Int)
     .rw [if_pos hxj,if_pos ⟨j,.head _,hxj.symm⟩,hxj]
     .rw [if_neg hxj,if_neg];rintro ⟨j',a,b⟩;rcases List.mem_cons.mp a with rfl | a
      .exact hxj b.symm
      .exact hx ⟨j',a,b⟩
  .rintro r j' (hd | ⟨rfl,rfl⟩)
   .rcases hD r j' hd with hlt | ⟨he,hlt⟩
    .exact .inl hlt
    .exact .inr ⟨he,λj'' hj''=>hlt j'' (.tail _ hj'')⟩
   .exact .inr ⟨rfl,λj'' hj''=>by have:=hp.1 j'' hj'';(exact Int.ofNat_lt.mpr ‹_›)⟩
theorem Zlh {as:List Int}{J:Int->List Nat}{alo blo bhi:Int} (hJ:∀ x,(J x).Pairwise (· < ·)):∀ n:Nat,(∀ x,(outS as J alo blo bhi n).1 x=LL (MJ as J) alo blo bhi n x) /\
  BInv alo blo (λr j=>alo<=r/\r < alo + n/\blo<=j/\j < bhi/\MJ as J r j) (λr j=>LL (MJ as J) alo blo bhi (r - alo + 1).toNat j) (outS as J alo blo bhi n).2:=by
 intro r_
 induction r_ with
 | zero=>
  exact ⟨λx=>rfl,.inl ⟨rfl,λr j h=>by have:=h.1;have:=h.2.1;omega⟩⟩
 | succ n ih=>
  have ih:=ih;rw[Zmr,Zex (hJ _)];have mem:∀ x:Int,(∃ j' ∈ (J (as.getD (alo + n).toNat 0)).filter (λ(j:Nat)=>decide (blo<=(j:Int)) && decide ((j:Int) < bhi)),((j':Nat):Int)=x) ↔ (blo<=x/\x < bhi/\MJ as J (alo + n) x):=λx=>by
   constructor
   .rintro ⟨j',hm,rfl⟩;rw[List.mem_filter,Bool.and_eq_true,decide_eq_true_iff,decide_eq_true_iff]at hm;exact ⟨hm.2.1,hm.2.2,j',hm.1,rfl⟩
   .rintro ⟨h1,h2,j',hm,rfl⟩;refine ⟨j',?_,rfl⟩;rw[List.mem_filter,Bool.and_eq_true,decide_eq_true_iff,decide_eq_true_iff];exact ⟨hm,h1,h2⟩
  have hn:(alo + (n:Int) - alo + 1).toNat=n + 1:=by (exact F11 0x68076677370103a 0x10010110101 rfl)
  have F:=Zlz (alo:=alo) (blo:=blo) (r0:=alo + n) (f:=(outS as J alo blo bhi n).1) (V:=λr j=>LL (MJ as J) alo blo bhi (r - alo + 1).toNat j) (js:=(J (as.getD (alo + n).toNat 0)).filter (λ(j:Nat)=>decide (blo<=(j:Int)) && decide ((j:Int) < bhi)))
   (D:=λr j=>alo<=r/\r < alo + n/\blo<=j/\j < bhi/\MJ as J r j) (g:=λ_=>0) (b:=(outS as J alo blo bhi n).2) ((hJ _).filter _) (λj hj=>?_) (λx=>by rw[ih.1];exact Zd1 _ _) (λr j h=>.inl h.2.1) ih.2
  .refine ⟨λx=>?_,F.1.congr λr j=>?_⟩
   .rw [F.2 x,LL_s];by_cases hx:blo<=x/\x < bhi/\MJ as J (alo + n) x
    .rw [if_pos ((mem x).mpr hx),if_pos hx,ih.1]
    .rw [if_neg (λh=>hx ((mem x).mp h)),if_neg hx]
   .rw [mem j];constructor
    .rintro ⟨h1,h2,h3,h4,h5⟩;by_cases hr:r < alo + n
     .exact .inl ⟨h1,hr,h3,h4,h5⟩
     .have:r=alo + n:=by (exact F12 0x73807973807720670380770 0x101110 rfl h2 hr)
      subst this;exact .inr ⟨rfl,h3,h4,h5⟩
    .rintro (⟨h1,h2,h3,h4,h5⟩ | ⟨rfl,h3,h4,h5⟩)
     .exact ⟨h1,by (exact F12 0x670380777380770 0x11 rfl h2),h3,h4,h5⟩
     .exact ⟨by (exact F11 0x737078 0x1 rfl),by (exact F11 0x67037073707 0x1 rfl),h3,h4,h5⟩
  .rw [hn,LL_s,if_pos ((mem _).mp ⟨j,hj,rfl⟩),ih.1]
structure Common (M:Int->Int->Prop) (alo ahi blo bhi i j k:Int):Prop where
 a0:alo<=i
 a1:i + k<=ahi
 b0:blo<=j
 b1:j + k<=bhi
 k0 : 0<=k
 eq:∀ t,0<=t->t < k->M (i + t) (j + t)
structure Longest (M:Int->Int->Prop) (alo ahi blo bhi:Int) (b:Best):Prop where
 k0 : 0<=b.2.2
 zero:b.2.2=0->b=(alo,blo,0)
 com : 0 < b.2.2->Common M alo ahi blo bhi b.1 b.2.1 b.2.2
 max:∀ i j k,Common M alo ahi blo bhi i j k->k<=b.2.2/\(k=b.2.2->0 < k->b.1 < i\/(b.1=i/\b.2.1<=j))
theorem Zdf {as:List Int}{J:Int->List Nat}{alo ahi blo bhi:Int} (hJ:∀ x,(J x).Pairwise (· < ·)):Longest (MJ as J) alo ahi blo bhi (outS as J alo blo bhi (ahi - alo).toNat).2:=by
 have I:=(Zlh (as:=as) (alo:=alo) (blo:=blo) (bhi:=bhi) hJ (ahi - alo).toNat).2;generalize (outS as J alo blo bhi (ahi - alo).toNat).2=b at I;have last:∀ i j k,Common (MJ as J) alo ahi blo bhi i j k->0 < k->(alo<=i + k - 1/\i + k - 1 < alo + ((ahi - alo).toNat:Nat)/\blo<=j + k - 1/\j + k - 1 < bhi/\MJ as J (i + k - 1) (j + k - 1))/\k<=LL (MJ as J) alo blo bhi (i + k - 1 - alo + 1).toNat (j + k - 1):=λi j k c hk=>by
  have:=c.a0;have:=c.a1;have:=c.b0;have:=c.b1;have e:=c.eq (k - 1) (by (exact F01 0x67104870470 0x11 rfl hk)) (by lia);have e1:i + (k - 1)=i + k - 1:=by (exact F02 0x68701681709 0x11 rfl)
  have e2:j + (k - 1)=j + k - 1:=by lia
  rw[e1,e2]at e;refine ⟨⟨by (exact F03 0x6790188988070470 0x111 rfl hk ‹_›),by (exact F04 0x73a0687017987080a913a 0x11101101 rfl ‹_›),by lia,by (exact F03 0x9687017987080 0x11 rfl this),e⟩,Zp9 _ _ _ (by (exact F03 0x73789880704706867901103a 0x111011001 rfl hk ‹_›)) (by (exact F03 0x696980110788780 0x11 rfl ‹_›)) (by lia) λt h0 h1=>?_⟩;have:=c.eq (k - 1 - t) (by (exact F02 0x768110488770 0x11 rfl h1)) (by (exact F02 0x876811770480 0x11 rfl h0));have e3:alo + (((i + k - 1 - alo + 1).toNat:Nat):Int) - 1 - t=i + (k - 1 - t):=by (exact F04 0xa671190a673801199880704706867901103a 0x11101100101001010001 rfl hk ‹_›)
  have e4:j + k - 1 - t=j + (k - 1 - t):=by (exact F03 0x968117096870119 0x11 rfl)
  rw[e3,e4];exact this
 rcases I with ⟨rfl,hno⟩ | ⟨h0,h1,h2,h3⟩
 .refine ⟨Int.le_refl _,λ_=>rfl,λh=>absurd h (Int.lt_irrefl _),λi j k c=>?_⟩;by_cases hk : 0 < k
  .exact absurd (last i j k c hk).1 (hno _ _)
  .exact ⟨by show k<=0;(exact Int.not_lt.mp ‹_›),λ_ h=>absurd h hk⟩
 .refine ⟨by (exact Int.le_of_lt ‹_›),λe=>by lia,λ_=>?_,λi j k c=>?_⟩
  .have hle:=Zp7 (M:=MJ as J) (alo:=alo) (blo:=blo) (bhi:=bhi) (b.1 + b.2.2 - 1 - alo + 1).toNat (b.2.1 + b.2.2 - 1);have hin:=λt a c=>Zp8 (M:=MJ as J) (alo:=alo) (blo:=blo) (bhi:=bhi) (b.1 + b.2.2 - 1 - alo + 1).toNat (b.2.1 + b.2.2 - 1) t a c;dsimp only at h2;rw[h2]at hle;simp only[h2]at hin;obtain ⟨g1,g2,g3,g4,g5⟩:=h1;have hb:=(hin (b.2.2 - 1) (by (exact F01 0x67104870470 0x11 rfl h0)) (by lia)).2.1;refine ⟨by (exact F03 0x98867901880737806867901103a 0x101010110 rfl hle g1),by (exact F04 0xa980873706980170698017807a13a 0x110111010 rfl g1 g2),by (exact F03 0x878691698011780 0x11 rfl hb),by (exact F03 0x9870896870170 0x11 rfl g4),by (exact Int.le_of_lt ‹_›),λt ht0 ht1=>?_⟩;have:=(hin (b.2.2 - 1 - t) (by (exact F02 0x768110488770 0x11 rfl ht1)) (by (exact F02 0x876811770480 0x11 rfl ht0))).1;have e3:alo + (((b.1 + b.2.2 - 1 - alo + 1).toNat:Nat):Int) - 1 - (b.2.2 - 1 - t)=b.1 + t:=by (exact F04 0x9a0967116738011973780704706867a01103a 0x1101100101001010001 rfl h0 hle)
   have e4:b.2.1 + b.2.2 - 1 - (b.2.2 - 1 - t)=b.2.1 + t:=by (exact F03 0x970968116870119 0x11 rfl)
   rw[e3,e4]at this;exact this
  .by_cases hk : 0 < k
   .obtain ⟨l1,l2⟩:=last i j k c hk;have l3:=h3 _ _ l1;dsimp only at l3;refine ⟨Int.le_trans l2 l3.1,λe _=>?_⟩;have l4:LL (MJ as J) alo blo bhi (i + k - 1 - alo + 1).toNat (j + k - 1)=b.2.2:=by
     have:=l3.1
     (exact F03 0x989979098808780 0x1001011001 rfl l2 l3.1 e)
    rcases l3.2 l4 with x | ⟨x,y⟩
    .left;(exact F04 0xa9767a0168901708790 0x1101 rfl e x)
    .right;exact ⟨by (exact F04 0xa9967a0168901908790 0x1010111010 rfl e x),by (exact F04 0xa9867a0168901808790 0x1101 rfl e y)⟩
   .exact ⟨by (exact F02 0x78880472070470 0x111 rfl h0 hk),λ_ h=>absurd h hk⟩
theorem Zlx (bs:List Int) (x:Int):(idxN bs x).Pairwise (· < ·):=List.Pairwise.filter _ List.pairwise_lt_range
theorem Zoc {as bs:List Int}{p q:Int}:MJ as (idxN bs) p q ↔ 0<=q/\q < bs.length/\bs.getD q.toNat 0=as.getD p.toNat 0:=by
 unfold MJ idxN;constructor
 .rintro ⟨j,hj,rfl⟩;rw[List.mem_filter,List.mem_range,beq_iff_eq]at hj;refine ⟨by (exact Int.natCast_nonneg _),by (exact F20 0x837378740 0x11 rfl hj.1),?_⟩;rw[Int.toNat_natCast,List.getD_eq_getElem?_getD,hj.2];rfl
 .rintro ⟨h0,h1,h2⟩;refine ⟨q.toNat,?_,by (exact Zqn ‹_›)⟩;rw[List.mem_filter,List.mem_range,beq_iff_eq];refine ⟨by (exact Zgh ‹_› ‹_›),?_⟩;rw[<-h2,List.getD_eq_getElem?_getD,List.getElem?_eq_getElem (by (exact Zgh ‹_› ‹_›))];rfl
theorem matK (W0:World):MatK PW W0 (KW W0) where
 call:=by kernel_rfl
 typ:=by kernel_rfl
 made:=by kernel_rfl
 chk _:=by kernel_rfl
 mro:=by kernel_rfl
 here:=by kernel_rfl
 isty:=by kernel_rfl
 self:=by kernel_rfl
 top:=by kernel_rfl
 tup:=by kernel_rfl
 init:=by kernel_rfl
 reads:=by kernel_rfl
 find:=by kernel_rfl
 sm:=by kernel_rfl
 tnew:=by kernel_rfl
 del:=⟨_,_,_,_,rfl,by kernel_rfl⟩
noncomputable def JJ (bs:List Int) (fj:Int->Bool) (k:Int):List Nat:=if fj k then [] else idxN bs k
theorem Zna (bs:List Int) (fj:Int->Bool) (x:Int):(JJ bs fj x).Pairwise (· < ·):=by
 unfold JJ;split
 .exact List.Pairwise.nil
 .exact Zlx bs x
theorem Zqc (bs:List Int) (fj:Int->Bool) (x:Int):(JJ bs fj x).length<=bs.length:=by
 unfold JJ;split
 .exact Nat.zero_le _
 .exact Nat.le_trans (List.length_filter_le _ _) (by rw[List.length_range];exact Nat.le_refl _)
noncomputable def flmX (as bs:List Int) (fj:Int->Bool) (alo ahi blo bhi:Int):Option Best:=
 (Zbl (cnd as bs fj false) ahi bhi bs.length (Za9 (cnd as bs fj false) alo blo (outS as (JJ bs fj) alo blo bhi (ahi - alo).toNat).2)).bind λb=>
  Zbl (cnd as bs fj true) ahi bhi bs.length (Za9 (cnd as bs fj true) alo blo b)
noncomputable def X9 (av:List AV) (bs:List Int) (fj:Int->Bool) (alo ahi blo bhi:Int) (cls:String):Prop:=
 cls = "IndexError" /\ ((∃ i,alo<=i/\i < ahi/\(av.length:Int)<=i/\Ints av alo i)\/Ints av alo ahi/\flmX (av.map toI) bs fj alo ahi blo bhi=none) \/
 cls = "TypeError" /\ ∃ i l,alo<=i/\i < ahi/\av[i.toNat]?=some (.ref l)/\Ints av alo i
noncomputable def Zmv:List String:=["a", "b", "b2j", "bjunk", "matching_blocks", "opcodes", "fullbcount", "isjunk", "autojunk", "bpopular"]
structure SM9 (ma:Loc) (a b:AV) (d j:Addr):Prop where
 a:ma (S "a")=some a
 b:ma (S "b")=some b
 b2j:ma (S "b2j")=some (.ref d)
 bj:ma (S "bjunk")=some (.ref j)
 mb:ma (S "matching_blocks")=some .none
 op:ma (S "opcodes")=some .none
 fb:ma (S "fullbcount")=some .none
 no:∀ y,y ∉ Zmv->ma (S y)=none
structure M9 (hp:Hp) (L x dx:Addr) (a b:AV) (bs:List Int) (fj:Int->Bool):Prop where
 ex:∃ ma d j nj,Ins hp L x dx 242 ma/\SM9 ma a b d j/\JD hp L d (JJ bs fj)/\hp j=some (.set fj nj)/\j≠L
section
variable {A:Around}{E:ET}{B:Shared}{env:Env}{outer:List Env}{m:Loc}{hp:Hp}
theorem Zmp {a b c:AV}{Q:QV} (G:Gnd (KW W0) B) (hroom:A.depth + 1 < recursionLimit) (h:Q (.mat [a,b,c]) hp):CL (model PW W0) A E B env (.ref 135) m [a,b,c] hp Q:=by
 refine Zqe G (matK W0) λvs0=>?_;refine Zff (bs:=[(S "size",c),(S "b",b),(S "a",a),(S "_cls",.ref 135)]) (body:=Zbg (inS (topS PW 3) 4)) G (Zrb W0) (by kernel_rfl) rfl (by show A.depth + 1 < _;omega) (λs vs hv _=>?_) (by kernel_rfl) (by decide) (λL hL hLe=>?_)
 .refine hide λ_ Z=>?_;obtain ⟨v,u,z,y,rfl,h1,h2,h3,h4⟩:=Zhp hv;apply Z;clear Z;exact ⟨[(S "_cls",v),(S "a",u),(S "b",z),(S "size",y)],BindsTo.of_eq rfl,rfl,.mk h4 (.mk h3 (.mk h2 (.mk h1 .nil)))⟩
 .have g0:locOf [(S "size",c),(S "b",b),(S "a",a),(S "_cls",.ref 135)] (S "_cls")=some (.ref 135):=rfl;have g1:locOf [(S "size",c),(S "b",b),(S "a",a),(S "_cls",.ref 135)] (S "a")=some a:=rfl;have g2:locOf [(S "size",c),(S "b",b),(S "a",a),(S "_cls",.ref 135)] (S "b")=some b:=rfl;have g3:locOf [(S "size",c),(S "b",b),(S "a",a),(S "_cls",.ref 135)] (S "size")=some c:=rfl;generalize hm0:locOf [(S "size",c),(S "b",b),(S "a",a),(S "_cls",.ref 135)]=m0 at *;refine Zac (Zem ?_);refine Zac (Zau (Zoe G (matK W0) (Zat G (Zlk W0) Zj9 (by decide) (λ_=>Zc7) ⟨rfl,Zab (Zaa g0 (Zab (Zan (Zab (Zaa g1 (Zab (Zaa g2 (Zab (Zaa g3 (Zae ⟨sz rfl,Zae (Zon G (matK W0) (sz rfl) ?_)⟩))))))))))⟩)));exact Zcv hL ⟨⟨_,rfl⟩,h⟩
theorem Zov {x dx aA bA:Addr}{av:List AV}{bs:List Int}{fj:Int->Bool}{alo ahi blo bhi:Int}{Q:QV} (G:Gnd (KW W0) B) (hh:A.handled=none) (hroom:A.depth + 3 < recursionLimit) (hu:A.units + 100 < cLine)
  (hfr:A.frames=some (env :: outer)) (F0:∀ v ∈ env :: outer,FrOk (hp.set env.locals (.ns m)) v)
  (MM:M9 hp env.locals x dx (.ref aA) (.ref bA) bs fj) (la:Lst B hp env.locals aA av) (lb:Lst B hp env.locals bA (bs.map .int)) (items:∀ (i:Nat) y,av[i]?=some y->(∃ k,y = .int k)\/∃ l xs,y = .ref l/\Lst B hp env.locals l xs)
  (ha0 : 0<=alo) (haa:alo < 2 ^ 61) (ha1:ahi < 2 ^ 61) (haz : -(2 ^ 61)<=ahi) (hb0 : 0<=blo) (hb1:bhi < 2 ^ 61) (hlb:bs.length<=4000)
  (hE:∀ cls e s',X9 av bs fj alo ahi blo bhi cls->Fly B (hp.set env.locals (.ns m)) (env :: outer) cls e s'->E (.ref e) s')
  (h:∀ b,Ints av alo ahi->flmX (av.map toI) bs fj alo ahi blo bhi=some b->Q (triV b) hp) :
  CL (model PW W0) A E B env (.ref 196) m [.ref x,.int alo,.int ahi,.int blo,.int bhi] hp Q:=by
 obtain ⟨ma,d,j,nj,I,F,R,hj,hjL⟩:=MM.ex;refine CD.cl (Zqh (bs:=[(S "bhi",.int bhi),(S "blo",.int blo),(S "ahi",.int ahi),(S "alo",.int alo),(S "self",.ref x)]) (body:=Zbg (mS 6)) G (kFlm W0) (by kernel_rfl) rfl (by (exact ul0 ‹_›)) (λs vs hv hk=>?_) (by kernel_rfl) (by decide) (X9 av bs fj alo ahi blo bhi) hfr F0 hE (λL hL hLe E' hE' hT=>?_))
 .obtain ⟨v,u,z,y,t,rfl,h1,h2,h3,h4,h5⟩:=Zhq hv;exact ⟨[(S "self",v),(S "alo",u),(S "ahi",z),(S "blo",y),(S "bhi",t)],binds_K (G.X.keeps hk) rfl (by rfl) rfl rfl rfl,rfl,.mk h5 (.mk h4 (.mk h3 (.mk h2 (.mk h1 .nil))))⟩
 .have I':Ins (hp.set env.locals (.ns m)) L x dx 242 ma:=I.call hL;have la':Lst B (hp.set env.locals (.ns m)) L aA av:=la.call hL;have items':∀ (i:Nat) y,av[i]?=some y->(∃ k,y = .int k)\/∃ l xs,y = .ref l/\Lst B (hp.set env.locals (.ns m)) L l xs:=λi y hy=>(items i y hy).imp id λ⟨l,xs,e,hl⟩=>⟨l,xs,e,hl.call hL⟩;have lb':Lst B (hp.set env.locals (.ns m)) L bA (bs.map .int):=lb.call hL;have R':JD (hp.set env.locals (.ns m)) L d (JJ bs fj):=R.move (λz o e _ hz=>⟨Hp.snt hz e,Hp.ne_of e hL⟩);have hj':(hp.set env.locals (.ns m)) j=some (.set fj nj):=Hp.snt hjL hj;have hjL':j≠L:=Hp.ne_of hj hL;have g0:locOf [(S "bhi",AV.int bhi),(S "blo",.int blo),(S "ahi",.int ahi),(S "alo",.int alo),(S "self",.ref x)] (S "self")=some (.ref x):=rfl;have g1:locOf [(S "bhi",AV.int bhi),(S "blo",.int blo),(S "ahi",.int ahi),(S "alo",.int alo),(S "self",.ref x)] (S "alo")=some (.int alo):=rfl;have g2:locOf [(S "bhi",AV.int bhi),(S "blo",.int blo),(S "ahi",.int ahi),(S "alo",.int alo),(S "self",.ref x)] (S "ahi")=some (.int ahi):=rfl;have g3:locOf [(S "bhi",AV.int bhi),(S "blo",.int blo),(S "ahi",.int ahi),(S "alo",.int alo),(S "self",.ref x)] (S "blo")=some (.int blo):=rfl;have g4:locOf [(S "bhi",AV.int bhi),(S "blo",.int blo),(S "ahi",.int ahi),(S "alo",.int alo),(S "self",.ref x)] (S "bhi")=some (.int bhi):=rfl;generalize hm0:locOf [(S "bhi",AV.int bhi),(S "blo",.int blo),(S "ahi",.int ahi),(S "alo",.int alo),(S "self",.ref x)]=m0 at *;have hq0:Hp.Le (hp.set env.locals (.ns m)) (hp.set env.locals (.ns m)):=.refl _;generalize hq:hp.set env.locals (.ns m)=hp1 at I' la' lb' items' R' hj' hq0 hT ⊢;refine Zac (Zem ?_);refine Zac (Zbk (Zan (Zab (Zb7 G g0 I' F.a (Zab (Zb7 G g0 I' F.b ?_))))));refine Zab (Zb7 G g0 I' F.b2j (Zab ?_));refine Zkr Zj8 (λho hc h=>Zeu ho hc h) (Zb7 G g0 I' F.bj ⟨j,rfl,Zjm hj' hjL',λib hib hibL=>Zae ⟨sz rfl,?_⟩⟩);refine Zci hh rfl rfl rfl (Zam (Zak (Zam (Zak (Zam (Zak (Zam (Zak (Zav ?_)))))))));have le1:Hp.Le hp1 (hp1.set ib (.obj (Zax "set.__contains__" j))):=(Hp.Le.refl _).set hib _
  try dsimp only
  generalize hm1:upd (upd (upd (upd m0 _ _) _ _) _ _) _ _=m1;have k1:m1 (S "alo")=some (.int alo):=by subst hm1;(first | assumption | rfl)
  have k2:m1 (S "ahi")=some (.int ahi):=by subst hm1;(first | assumption | rfl)
  have k3:m1 (S "blo")=some (.int blo):=by subst hm1;(first | assumption | rfl)
  have k4:m1 (S "bhi")=some (.int bhi):=by subst hm1;(first | assumption | rfl)
  have k5:m1 (S "a")=some (.ref aA):=by subst hm1;(first | assumption | rfl)
  have k6:m1 (S "b")=some (.ref bA):=by subst hm1;(first | assumption | rfl)
  have k7:m1 (S "b2j")=some (.ref d):=by subst hm1;(first | assumption | rfl)
  have k8:m1 (S "isbjunk")=some (.ref ib):=by subst hm1;(first | assumption | rfl)
  clear hm1 g0 g1 g2 g3 g4;refine Zac (Zcf (Zaf (Zaa k2 (Zch (Zce (Zaj (Zal ?_)))))));refine Zac (Zcf (Zaf (Zaa k4 (Zch (Zce (Zaj (Zal ?_)))))));refine Zac (Za4 hh (names:=[S "besti",S "bestj",S "bestsize"]) (Zan (Zab (Zaa k1 (Zab (Zaa k3 (Zab (Zah (Zae ⟨sz rfl,_,rfl,rfl,Zas (Zas (Zas (Zav ?_)))⟩)))))))));refine Zac (Zaq (Zfd λd0 hd0 hd0L=>?_));refine Zac (Zaq (Zbt (Zae ⟨Nat.zero_le _,λnt hnt hntL=>?_⟩)));have le2:Hp.Le hp1 (((hp1.set ib (.obj (Zax "set.__contains__" j))).set d0 (.dict [])).set nt (.list [])):=(le1.set (le1.none hd0) _).set ((le1.set (le1.none hd0) _).none hnt) _;dsimp only;generalize hm2:upd (upd (upd (upd (upd m1 _ _) _ _) _ _) _ _) _ _=m2;have p1:m2 (S "alo")=some (.int alo):=by subst hm2;(first | assumption | rfl)
  have p2:m2 (S "ahi")=some (.int ahi):=by subst hm2;(first | assumption | rfl)
  have p3:m2 (S "blo")=some (.int blo):=by subst hm2;(first | assumption | rfl)
  have p4:m2 (S "bhi")=some (.int bhi):=by subst hm2;(first | assumption | rfl)
  have p5:m2 (S "a")=some (.ref aA):=by subst hm2;(first | assumption | rfl)
  have p6:m2 (S "b")=some (.ref bA):=by subst hm2;(first | assumption | rfl)
  have p7:m2 (S "b2j")=some (.ref d):=by subst hm2;(first | assumption | rfl)
  have p8:m2 (S "isbjunk")=some (.ref ib):=by subst hm2;(first | assumption | rfl)
  have p9:m2 (S "j2len")=some (.ref d0):=by subst hm2;(first | assumption | rfl)
  have p10:m2 (S "nothing")=some (.ref nt):=by subst hm2;(first | assumption | rfl)
  have p11:Zbh m2 (alo,blo,0):=by subst hm2;exact ⟨by first | assumption | rfl,by first | assumption | rfl,by first | assumption | rfl⟩
  clear hm2 k1 k2 k3 k4 k5 k6 k7 k8;have hd0':d0≠nt:=Hp.ne_of (Hp.ss ..) hnt;have hibd:ib≠d0:=Hp.ne_of (Hp.ss ..) hd0;have hibn:ib≠nt:=Hp.ne_of (show ((hp1.set ib (.obj (Zax "set.__contains__" j))).set d0 (.dict [])) ib=some _ by rw[Hp.sn _ _ hibd];exact Hp.ss ..) hnt;have hib2:(((hp1.set ib (.obj (Zax "set.__contains__" j))).set d0 (.dict [])).set nt (.list [])) ib=some (.obj (Zax "set.__contains__" j)):=Hp.snt hibn (Hp.snt hibd (Hp.ss ..));have hd02:(((hp1.set ib (.obj (Zax "set.__contains__" j))).set d0 (.dict [])).set nt (.list [])) d0=some (.dict []):=Hp.snt hd0' (Hp.ss ..);have hnt2:(((hp1.set ib (.obj (Zax "set.__contains__" j))).set d0 (.dict [])).set nt (.list [])) nt=some (.list []):=Hp.ss ..;generalize ((hp1.set ib (.obj (Zax "set.__contains__" j))).set d0 (.dict [])).set nt (.list [])=hp2 at le2 hib2 hd02 hnt2 ⊢;have hJl:∀ x,(JJ bs fj x).length<=4000:=λx=>Nat.le_trans (Zqc _ _ _) hlb;have Lg:=Zdf (as:=av.map toI) (alo:=alo) (ahi:=ahi) (blo:=blo) (bhi:=bhi) (Zna bs fj)
  refine Zac (Zjt (A:=A.deeper (callEnv Za2 L 196)) (J:=JJ bs fj) (hbs:=hp1) G hh (by show A.units + 3 + 10 < _;(exact F20 0x8a434700486457040 0x11 rfl hu)) hE' (λi i1 i2 i3 i4=>hT _ (.inl ⟨rfl,.inl ⟨i,i1,i2,i3,i4⟩⟩)) (λi l i1 i2 i3 i4=>hT _ (.inr ⟨rfl,i,l,i1,i2,i3,i4⟩)) le2 (λi y hy=>(items' i y hy).imp id λ⟨l,xs,e,hl⟩=>⟨l,xs,e,hl.le le2⟩)
   p1 p2 p3 p4 p11 p7 p5 p10 p9 hd02 hd0L (R'.le le2) (la'.le le2) hnt2 hntL ha0 (by lia) (by lia) (by lia) hJl λm3 hp3 xi x1 x2 x3=>?_)
  have le3:=le2.trans x3;have FF:FL B hp3 L aA bA ib j av bs fj nj alo ahi blo bhi m3:=⟨by rw[x1 _ (by decide)];exact p1,by rw[x1 _ (by decide)];exact p2,by rw[x1 _ (by decide)];exact p3,by rw[x1 _ (by decide)];exact p4,by rw[x1 _ (by decide)];exact p5,by rw[x1 _ (by decide)];exact p6,by rw[x1 _ (by decide)];exact p8,la'.le le3,lb'.le le3,x3 _ _ hib2,hibL,le3 _ _ hj',hjL',ha0,hb0,xi,by lia,by lia,hlb⟩;generalize hc0:(outS (av.map toI) (JJ bs fj) alo blo bhi (ahi - alo).toNat).2=c0 at x2 Lg;have IB:InB bs alo ahi blo c0:=by
   by_cases hz : 0 < c0.2.2
   .obtain ⟨q1,q2,q3,q4,q5,q6⟩:=Lg.com hz;obtain ⟨y,hy,e⟩:=q6 (c0.2.2 - 1) (by (exact F01 0x67104870470 0x11 rfl hz)) (by lia);have hyl:y < bs.length:=by
     unfold JJ at hy;split at hy
     .cases hy
     .exact List.mem_range.mp (List.mem_filter.mp hy).1
    exact ⟨q1,q3,q5,λ_=>by (exact F03 0x98897808070470 0x111 rfl hz q2),λ_=>by (exact fk [_,_] [_,_] 0x8388874067180739070470 0x11101 rfl hz e hyl)⟩
   .have:=Lg.zero (by have:=Lg.k0;(exact F01 0x47970480704720 0x101110 rfl hz this));rw[this];exact ⟨Int.le_refl _,Int.le_refl _,Int.le_refl _,λx=>absurd x (Int.lt_irrefl _),λx=>absurd x (Int.lt_irrefl _)⟩
  have none1:Zbl (cnd (av.map toI) bs fj false) ahi bhi bs.length (Za9 (cnd (av.map toI) bs fj false) alo blo c0)=none->THR E' B (callEnv Za2 L 196) hp1 "IndexError" := λe=>hT _ (.inl ⟨rfl,.inr ⟨xi,by unfold flmX;rw[hc0,e];rfl⟩⟩);refine Zac (Zps (A:=A.deeper (callEnv Za2 L 196)) hh hE' FF x2 IB λm4 y1 y2=>?_);refine Zac (Zpr (A:=A.deeper (callEnv Za2 L 196)) (hbs:=hp1) hh hE' (FF.upd y1) y2 IB.down none1 le3 λm5 c1 hc1 z1 z2=>?_);have IB1:=IB.down (c:=cnd (av.map toI) bs fj false) (n:=(c0.1 - alo).toNat) |>.upX hc1;have none2:Zbl (cnd (av.map toI) bs fj true) ahi bhi bs.length (Za9 (cnd (av.map toI) bs fj true) alo blo c1)=none->THR E' B (callEnv Za2 L 196) hp1 "IndexError" := λe=>hT _ (.inl ⟨rfl,.inr ⟨xi,by unfold flmX;rw[hc0,hc1];exact e⟩⟩);refine Zac (Zpq (A:=A.deeper (callEnv Za2 L 196)) hh hE' ((FF.upd y1).upd z1) z2 IB1 λm6 u1 u2=>?_);refine Zac (Zpp (A:=A.deeper (callEnv Za2 L 196)) (hbs:=hp1) hh hE' (((FF.upd y1).upd z1).upd u1) u2 IB1.down none2 le3 λm7 c2 hc2 v1 v2=>?_);obtain ⟨b1,b2,b3⟩:=v2;refine Zac (Zau (Zhu G (f:=135) (by kernel_rfl) (Zdd G (Znz W0) (λ_=>VR_ref) ⟨rfl,Zab (Zaa b1 (Zab (Zaa b2 (Zab (Zaa b3 (Zae ?_))))))⟩)));refine Zmp (A:=A.deeper (callEnv Za2 L 196)) G (by show A.depth + 1 + 1 < _;(exact Nat.lt_of_succ_lt ‹_›)) ?_;refine Zcn (hp₂:=hp) (by rw[hq];exact le3) hL ?_;exact h c2 xi (by unfold flmX;rw[hc0,hc1];exact hc2)
end
theorem Lst.up {B B':Shared}{hp:Hp}{L a:Addr}{xs:List AV} (h:Lst B hp L a xs) (k:∀ b o,B.heap.get? b=some o->B'.heap.get? b=some o):Lst B' hp L a xs:=by
 rcases h with h | ⟨vs,⟨o,ho,r⟩,hv⟩
 .exact .inl h
 .exact .inr ⟨vs,⟨o,k _ _ ho,r⟩,hv.mono (ImmLe.keep k)⟩
theorem M9.call {hp:Hp}{L L' x dx:Addr}{a b:AV}{bs:List Int}{fj:Int->Bool}{m:Loc} (M:M9 hp L x dx a b bs fj) (hL:hp L'=none):M9 (hp.set L (.ns m)) L' x dx a b bs fj:=by obtain ⟨ma,d,j,nj,I,F,R,hj,hjL⟩:=M.ex;exact ⟨ma,d,j,nj,I.call hL,F,R.move (λz o e _ hz=>⟨Hp.snt hz e,Hp.ne_of e hL⟩),Hp.snt hjL hj,Hp.ne_of hj hL⟩
theorem Zpa (W0:World):nsIn (KW W0) mainGlobals (S "IndexError")=some none:=by kernel_rfl
theorem Zqt (W0:World):nsIn (KW W0) mainGlobals (S "TypeError")=some none:=by kernel_rfl
theorem Zm8:bootBuiltins (PySem.Str.ofString "IndexError")=some (.type "IndexError"):=by boot_fast
theorem Zp4:bootBuiltins (PySem.Str.ofString "TypeError")=some (.type "TypeError"):=by boot_fast
theorem Zm4:isSubtype (.type "IndexError") (.type "BaseException")=pure true:=by rw[isSubtype_type];kernel_rfl
theorem Zpx:isSubtype (.type "TypeError") (.type "BaseException")=pure true:=by rw[isSubtype_type];kernel_rfl
theorem Zo6:isSubtype (.type "IndexError") (.type "IndexError")=pure true:=by rw[isSubtype_type];kernel_rfl
theorem Zo5:isSubtype (.type "TypeError") (.type "IndexError")=pure false:=by rw[isSubtype_type];kernel_rfl
theorem Zo4:isSubtype (.type "TypeError") (.type "TypeError")=pure true:=by rw[isSubtype_type];kernel_rfl
theorem Zjd:isSubtype (.type ((Manifest.find? "IndexError").elim "type" λx=>x.metatype)) (.type "tuple")=pure false:=by rw[find?_eq_fast,isSubtype_type];kernel_rfl
theorem Znr:isSubtype (.type ((Manifest.find? "TypeError").elim "type" λx=>x.metatype)) (.type "tuple")=pure false:=by rw[find?_eq_fast,isSubtype_type];kernel_rfl
section
variable {A:Around}{E:ET}{B:Shared}{env:Env}{outer:List Env}{m:Loc}{hp:Hp}
theorem Zom {x dx aA bA:Addr}{av:List AV}{bs:List Int}{fj:Int->Bool}{alo ahi blo bhi:Int}{Q:QV} (G:Gnd (KW W0) B) (hh:A.handled=none) (hroom:A.depth + 4 < recursionLimit) (hu:A.units + 110 < cLine)
  (hfr:A.frames=some (env :: outer)) (F0:∀ v ∈ env :: outer,FrOk (hp.set env.locals (.ns m)) v)
  (MM:M9 hp env.locals x dx (.ref aA) (.ref bA) bs fj) (la:Lst B hp env.locals aA av) (lb:Lst B hp env.locals bA (bs.map .int)) (items:∀ (i:Nat) y,av[i]?=some y->(∃ k,y = .int k)\/∃ l xs,y = .ref l/\Lst B hp env.locals l xs)
  (ha0 : 0<=alo) (haa:alo < 2 ^ 61) (ha1:ahi < 2 ^ 61) (haz : -(2 ^ 61)<=ahi) (hb0 : 0<=blo) (hb1:bhi < 2 ^ 61) (hlb:bs.length<=4000)
  (q1:∀ b,Ints av alo ahi->flmX (av.map toI) bs fj alo ahi blo bhi=some b->Q (.tup [.int b.1,.int b.2.1,.int b.2.2]) hp) (q2:X9 av bs fj alo ahi blo bhi "IndexError" -> Q (.str (S "IndexError")) hp) (q3:X9 av bs fj alo ahi blo bhi "TypeError" -> Q (.str (S "TypeError")) hp) :
  CL (model PW W0) A E B env (.ref 267) m [.ref x,.int alo,.int ahi,.int blo,.int bhi] hp Q:=by
 refine CD.cl (Zff (bs:=[(S "bhi",.int bhi),(S "blo",.int blo),(S "ahi",.int ahi),(S "alo",.int alo),(S "matcher",.ref x)]) (body:=Zbg (topS PW 9)) G (Zpl W0) (by kernel_rfl) rfl (by (exact ul0 ‹_›)) (λs vs hv hk=>?_) (by kernel_rfl) (by decide) (λL hL hLe=>?_))
 .obtain ⟨v,u,z,y,t,rfl,h1,h2,h3,h4,h5⟩:=Zhq hv;exact ⟨[(S "matcher",v),(S "alo",u),(S "ahi",z),(S "blo",y),(S "bhi",t)],BindsTo.of_eq rfl,rfl,.mk h5 (.mk h4 (.mk h3 (.mk h2 (.mk h1 .nil))))⟩
 have g0:locOf [(S "bhi",AV.int bhi),(S "blo",.int blo),(S "ahi",.int ahi),(S "alo",.int alo),(S "matcher",.ref x)] (S "matcher")=some (.ref x):=rfl;have g1:locOf [(S "bhi",AV.int bhi),(S "blo",.int blo),(S "ahi",.int ahi),(S "alo",.int alo),(S "matcher",.ref x)] (S "alo")=some (.int alo):=rfl;have g2:locOf [(S "bhi",AV.int bhi),(S "blo",.int blo),(S "ahi",.int ahi),(S "alo",.int alo),(S "matcher",.ref x)] (S "ahi")=some (.int ahi):=rfl;have g3:locOf [(S "bhi",AV.int bhi),(S "blo",.int blo),(S "ahi",.int ahi),(S "alo",.int alo),(S "matcher",.ref x)] (S "blo")=some (.int blo):=rfl;have g4:locOf [(S "bhi",AV.int bhi),(S "blo",.int blo),(S "ahi",.int ahi),(S "alo",.int alo),(S "matcher",.ref x)] (S "bhi")=some (.int bhi):=rfl;generalize hm0:locOf [(S "bhi",AV.int bhi),(S "blo",.int blo),(S "ahi",.int ahi),(S "alo",.int alo),(S "matcher",.ref x)]=m0 at g0 g1 g2 g3 g4 ⊢;clear hm0;have MM':M9 (hp.set env.locals (.ns m)) L x dx (.ref aA) (.ref bA) bs fj:=MM.call hL;have la':Lst B (hp.set env.locals (.ns m)) L aA av:=la.call hL;have lb':Lst B (hp.set env.locals (.ns m)) L bA (bs.map .int):=lb.call hL;have F1:∀ v ∈ callEnv Zej L 267 :: env :: outer,FrOk ((hp.set env.locals (.ns m)).set L (.ns m0)) v:=λv hv=>by
  rcases List.mem_cons.mp hv with rfl | hv
  .exact ⟨by rw[show (callEnv Zej L 267).scope.kind = .function from rfl];decide,rfl,_,Hp.ss ..⟩
  .obtain ⟨f1,f2,mm,f3⟩:=F0 v hv;have hLn:(hp.set env.locals (.ns m)) L=none:=by rw[Hp.sn _ _ hLe];exact hL
   exact ⟨f1,f2,mm,Hp.snt (λe=>by rw[e,hLn]at f3;cases f3) f3⟩
 have hfr':(A.deeper (callEnv Zej L 267)).frames=some (callEnv Zej L 267 :: env :: outer):=by show A.frames.map _=_;rw[hfr];rfl
 refine Zac (Zqd (X9 av bs fj alo ahi blo bhi) hfr' F1 (λB' E' k hx=>?_) λB' cls k hX=>?_)
 .have G':=G.up k;obtain ⟨ma,d,j,nj,I,F,R,hj,hjL⟩:=id MM'.ex;refine Zac (Zbk (Zfc G' (clsS W0) (f:=196) (by kernel_rfl) (by kernel_rfl) (by kernel_rfl) (Zaa g0 ⟨x,dx,ma,rfl,I,F.no _ (by decide),Zab (Zaa g1 (Zab (Zaa g2 (Zab (Zaa g3 (Zab (Zaa g4 (Zae ?_))))))))⟩)));refine Zov (A:=A.deeper (callEnv Zej L 267)) G' hh (by show A.depth + 1 + 3 < _;omega) (by show A.units + 3 + 100 < _;(exact F20 0x864534700486e57040 0x11 rfl hu)) hfr' F1 MM' (la'.up k) (lb'.up k) (λi y hy=>(items i y hy).imp id λ⟨l,xs,e,hl⟩=>⟨l,xs,e,(hl.call hL).up k⟩) ha0 haa ha1 haz hb0 hb1 hlb (λcls e s' hX f=>hx cls e s' hX f) λb xi hb=>?_;refine Ziu G' (by kernel_rfl) (by kernel_rfl) hh rfl rfl rfl (Zam (Zak (Zam (Zak (Zam (Zak (Zav ?_)))))));refine Zal ?_;refine Zac (Zau (Zan (Zab (Zaa (by first | assumption | rfl) (Zab (Zaa (by first | assumption | rfl) (Zab (Zaa (by first | assumption | rfl) (Zae ⟨sz rfl,?_⟩)))))))));exact Zcv hL (q1 b xi hb)
 .have G':=G.up k;rcases hX with ⟨rfl,hX⟩ | ⟨rfl,hX⟩
  .refine Zkq G' (Zpa W0) Zm8 (by decide) Zm4 Zjd Zo6 λA'=>?_;exact Zac (Zau (Zcr (Zcv hL (q2 (.inl ⟨rfl,hX⟩)))))
  .refine Zmg G' (Zpa W0) Zm8 (by decide) Zm4 Zjd Zo5 ?_;refine Zkq G' (Zqt W0) Zp4 (by decide) Zpx Znr Zo4 λA'=>?_;exact Zac (Zau (Zcr (Zcv hL (q3 (.inr ⟨rfl,hX⟩)))))
end
section
variable {K:Frag}
theorem Zkk {a:Addr}{xs:List Int}{k:Int}{Q:QV} (hl:Lst B hp env.locals a (xs.map .int)) (hu:A.units + 4 < cLine) (h:Q (.bool (xs.contains k)) hp):OP2 (model PW W0) A E B env (compareOp .In) m (.int k) (.ref a) hp Q:=λs u v r hu' hv=>by
 have rl:RD B hp env.locals (.ref a) (.list (xs.map .int)):=.list hl (by
  have:∀ xs:List Int,RDs B hp env.locals (xs.map .int) (xs.map .int):=λxs=>by
   induction xs with
   | nil=>exact .nil
   | cons x xs ih=>exact .cons (.int x) ih
  exact this xs)
 obtain ⟨as,ra⟩:=rl.reads r hv;obtain ⟨bs,rb⟩:=(RD.int (B:=B) (hp:=hp) (L:=env.locals) k).reads r hu';have h1:∀ xs:List Int,PyData.canLayAll0 (xs.map .int)=true:=by
  intro xs;induction xs with
  | nil=>rfl
  | cons x xs ih=>simp only[List.map_cons,PyData.canLayAll0,ih,Bool.and_true];rfl
 refine SeqAt.in_list_reads ra rb (h1 xs) rfl ?_ ⟨_,hp,r,.refl _,VR_bool,?_⟩
 .have:min (PyData.depthAll (xs.map .int)) (PyData.int k).depth<=(PyData.int k).depth:=Nat.min_le_right _ _;have e:(PyData.int k).depth<=2:=by simp[PyData.depth]
  (exact F40 0x896700424a50a9508447040 0x1111 rfl hu this e)
 .have e:∀ xs:List Int,(List.map PyData.int xs).any (λy=>y.eqv (PyData.int k))=xs.contains k:=λxs=>by
   induction xs with
   | nil=>rfl
   | cons x xs ih=>
    rw[List.map_cons,List.any_cons,List.contains_cons,ih];congr 1;rw[PyData.eqv,Bool.beq_comm]
  rw[e];exact h
end
noncomputable def grow (jk:Int->Bool):List Int->List Int->Bool->Nat
 | x :: xs,y :: ys,late=>if (x == y && (jk x || !late))=true then grow jk xs ys (jk x) + 1 else 0
 | _,_,_=>0
theorem Zjr {jk:Int->Bool}{x y:Int}{xs ys:List Int}{late:Bool}:grow jk (x :: xs) (y :: ys) late=if (x == y && (jk x || !late))=true then grow jk xs ys (jk x) + 1 else 0:=rfl
theorem grow_l {jk:Int->Bool}{ys:List Int}{late:Bool}:grow jk [] ys late=0:=rfl
theorem grow_r {jk:Int->Bool}{xs:List Int}{late:Bool}:grow jk xs [] late=0:=by cases xs <;> rfl
noncomputable def gwS (i:Nat):Stmt:=(Zbg (topS PW 7)).getD i (.Pass ⟨0,0,0,0⟩)
section
noncomputable def Zpo:List String:=["size", "late"]
theorem Zjq {L xA yA jA:Addr}{xs ys js:List Int}{KK:QX} (G:Gnd (KW W0) B) (hh:A.handled=none) (hu:A.units + 20 < cLine)
  (h1:m (S "ones")=some (.ref xA)) (h2:m (S "others")=some (.ref yA)) (h3:m (S "junk")=some (.ref jA)) (h4:m (S "size")=some (.int 0)) (h5:m (S "late")=some (.bool false))
  (l1:Lst B hp L xA (xs.map .int)) (l2:Lst B hp L yA (ys.map .int)) (l3:Lst B hp L jA (js.map .int)) (hx:xs.length<=4000) (hy:ys.length<=4000)
  (hK:∀ m',m' (S "size")=some (.int (grow js.contains xs ys false))->KK .next m' hp) :
  EX (model PW W0) A (λ_ _=>False) B (callEnv Zdn L 253) (gwS 1) m hp KK:=by
 let Iq:Nat->Loc->Hp->Prop:=λn m₂ hp₂=>hp₂=hp/\(∀ y,y ∉ Zpo->m₂ (S y)=m (S y))/\∃ (k:Nat) (late:Bool),n=xs.length - k/\m₂ (S "size")=some (.int k)/\m₂ (S "late")=some (.bool late)/\k<=xs.length/\k<=ys.length/\grow js.contains (xs.drop k) (ys.drop k) late + k=grow js.contains xs ys false;refine Zcl Iq xs.length ⟨rfl,λ_ _=>rfl,0,false,rfl,h4,h5,Nat.zero_le _,Nat.zero_le _,rfl⟩ ?_;rintro n m₂ hp₂ ⟨rfl,x0,k,late,rfl,x1,x2,x3,x4,x5⟩;have f1:m₂ (S "ones")=some (.ref xA):=by rw[x0 _ (by decide)];exact h1
 have f2:m₂ (S "others")=some (.ref yA):=by rw[x0 _ (by decide)];exact h2
 have f3:m₂ (S "junk")=some (.ref jA):=by rw[x0 _ (by decide)];exact h3
 refine Zc9 λKT hKT=>?_;have out:grow js.contains (xs.drop k) (ys.drop k) late=0->KT false hp₂:=λe=>hKT _ _ (if_f (hK _ (by rw[<-x5,e,Nat.zero_add];exact x1)));refine Zaw (Zag (Zaf (Zaa x1 (Zao (Zat G (Zfo W0) Zd0 (by decide) (λ_=>Zbi) ⟨rfl,Zab (Zao (Zat G (Zbc W0) Zaz (by decide) (λ_=>Zbi) ⟨rfl,Zab (Zaa f1 (Zae (Zbe l1 (by rw[List.length_map];exact sz' (by (exact Nat.le_trans ‹_› (by decide)))) (Zab ?_))))⟩))⟩)))));refine Zao (Zat G (Zbc W0) Zaz (by decide) (λ_=>Zbi) ⟨rfl,Zab (Zaa f2 (Zae (Zbe l2 (by rw[List.length_map];exact sz' (by (exact Nat.le_trans ‹_› (by decide)))) (Zae (Zhv hh (Zea (Zaj ?_)))))))⟩);rw[List.length_map,List.length_map];by_cases c1:k < xs.length
 case neg=>
  refine Zbu (by split <;> (first | exact F30 0x93737283937087420 0x111 rfl c1 ‹_› | exact F20 0x83737287420 0x11 rfl c1)) (out ?_);rw[List.drop_of_length_le (by (exact Nat.le_of_not_lt ‹_›))];exact grow_l
 by_cases c2:k < ys.length
 case neg=>
  refine Zbu (by split <;> (first | exact F20 0x83737287420 0x11 rfl c2 | exact F30 0x8373728393720974208740 0x111 rfl c1 c2 ‹_›)) (out ?_);rw[List.drop_of_length_le (by (exact Nat.le_of_not_lt ‹_›):ys.length<=k)];exact grow_r
 refine Zb1 (by split <;> (exact Int.ofNat_lt.mpr ‹_›)) ?_;have e1:xs.drop k=xs[k] :: xs.drop (k + 1):=List.drop_eq_getElem_cons c1;have e2:ys.drop k=ys[k] :: ys.drop (k + 1):=List.drop_eq_getElem_cons c2;have i1:(xs.map AV.int)[(k:Int).toNat]?=some (.int xs[k]):=by simp[c1]
 have i2:(ys.map AV.int)[(k:Int).toNat]?=some (.int ys[k]):=by simp[c2]
 rw[e1,e2,Zjr]at out x5;refine Zag (Zaf (Zai (Zaa f1 (Zaa x1 (Zar l1 (by (exact Int.natCast_nonneg _)) (by lia) i1 (Zai (Zaa f2 (Zaa x1 (Zar l2 (by (exact Int.natCast_nonneg _)) (by lia) i2 (Ze8 (Zaj ?_)))))))))));cases c3:(xs[k] == ys[k]) with
 | false=>exact if_f (out (by rw[c3];rfl))
 | true=>
 refine if_t ?_;have fin:(js.contains xs[k] || !late)=true->ALLT (model PW W0) A (λ_ _=>False) B (callEnv Zdn L 253) .And [] m₂ hp₂ KT:=λhc=>by
  refine Za0 (hKT _ _ (if_t ?_));rw[c3,hc]at x5;refine Zac (Zaq (Zcs (Zai (Zaa f1 (Zaa x1 (Zar l1 (by (exact Int.natCast_nonneg _)) (by lia) i1 (Zaa f3 (Zkk l3 (by (exact ul ‹_› (by decide))) ?_))))))));refine Zac (Zbd (by first | assumption | rfl) (Zah (Ze7 ?_)));refine Zal ⟨xs.length - (k + 1),by (exact Zb4 ‹_›),rfl,λy hy=>?_,k + 1,js.contains xs[k],rfl,by rw[show ((k + 1:Nat):Int)=(k:Int) + 1 by rfl];(first | assumption | rfl),by first | assumption | rfl,by assumption,by assumption,?_⟩
  .exact updO hy (updO hy (x0 y hy))
  .rw [<-x5,if_pos (by rfl)];lia
 refine Zag (Zaw (Zby (Zaf (Zai (Zaa f1 (Zaa x1 (Zar l1 (by (exact Int.natCast_nonneg _)) (by lia) i1 (Zaa f3 (Zkk l3 (by (exact ul ‹_› (by decide))) (Zaj ?_))))))))));cases c4:js.contains xs[k] with
 | true=>exact if_t (if_t (fin (by rw[c4];rfl)))
 | false=>
 refine if_f (Zby (Zgx (Za3 (Zaa x2 (Zaj ?_)))));cases late with
 | false=>exact if_t (if_t (fin (by rw[c4];rfl)))
 | true=>exact if_f (Zd5 (if_f (out (by rw[c3,c4];rfl))))
theorem Zgg {xA yA jA:Addr}{xs ys js:List Int}{Q:QV} (G:Gnd (KW W0) B) (hh:A.handled=none) (hroom:A.depth < recursionLimit) (hu:A.units + 30 < cLine)
  (l1:Lst B hp env.locals xA (xs.map .int)) (l2:Lst B hp env.locals yA (ys.map .int)) (l3:Lst B hp env.locals jA (js.map .int)) (hx:xs.length<=4000) (hy:ys.length<=4000)
  (h:Q (.int (grow js.contains xs ys false)) hp):CL (model PW W0) A E B env (.ref 253) m [.ref xA,.ref yA,.ref jA] hp Q:=by
 refine CD.cl (Zff (bs:=[(S "junk",.ref jA),(S "others",.ref yA),(S "ones",.ref xA)]) (body:=Zbg (topS PW 7)) G (Zgr W0) (by kernel_rfl) rfl hroom (λs vs hv _=>?_) (by kernel_rfl) (by decide) (λL hL hLe=>?_))
 .obtain ⟨v,u,z,rfl,h1,h2,h3⟩:=Zf7 hv;exact ⟨[(S "ones",v),(S "others",u),(S "junk",z)],BindsTo.of_eq rfl,rfl,.mk h3 (.mk h2 (.mk h1 .nil))⟩
 have g0:locOf [(S "junk",AV.ref jA),(S "others",.ref yA),(S "ones",.ref xA)] (S "junk")=some (.ref jA):=rfl;have g1:locOf [(S "junk",AV.ref jA),(S "others",.ref yA),(S "ones",.ref xA)] (S "others")=some (.ref yA):=rfl;have g2:locOf [(S "junk",AV.ref jA),(S "others",.ref yA),(S "ones",.ref xA)] (S "ones")=some (.ref xA):=rfl;generalize locOf [(S "junk",AV.ref jA),(S "others",.ref yA),(S "ones",.ref xA)]=m0 at g0 g1 g2 ⊢;refine Zac (Zbk (Zan (Zab (Zah (Zab (Zmk (Zae ⟨sz rfl,Zci hh rfl rfl rfl (Zam (Zak (Zam (Zak (Zav ?_)))))⟩)))))));refine Zac (Zjq (L:=L) (A:=A.deeper (callEnv Zdn L 253)) G hh (by show A.units + 3 + 20 < _;(exact F20 0x814534700481e57040 0x11 rfl hu)) (by first | assumption | rfl) (by first | assumption | rfl) (by first | assumption | rfl) (by first | assumption | rfl) (by first | assumption | rfl) (l1.call hL) (l2.call hL) (l3.call hL) hx hy λm' hm'=>?_);exact Zac (Zau (Zaa hm' (Zcv hL h)))
end
noncomputable def lawS (i:Nat):Stmt:=(Zbg (topS PW 10)).getD i (.Pass ⟨0,0,0,0⟩)
noncomputable def lamT (s:Stmt):Arguments × Expr × Scope:=match s with
 | .Assign _ (.Call _ (.IfExp _ (.Lambda p b sc _) _ _ :: _) _ _) _=>(p,b,sc)
 | _=>(⟨[],[],none,[],[],none,[]⟩,.Constant .none 0 ⟨0,0,0,0⟩,fdLaw.scope)
noncomputable def lamQ:PySem.Str:=S "law" ++ ".<locals>." ++ "<lambda>"
structure JunkF (B:Shared) (hp:Hp) (L f jl:Addr) (js:List Int):Prop where
 ex:∃ cJ,LamAt hp L f lamQ (lamT (lawS 7)).1 (lamT (lawS 7)).2.1 (lamT (lawS 7)).2.2 [(S "junk",cJ)]/\hp cJ=some (.cell (some (.ref jl)))/\cJ≠L/\Lst B hp L jl (js.map .int)
theorem LamAt.keep {hp hp':Hp}{L L' f:Addr}{q:PySem.Str}{ps:Arguments}{b:Expr}{sc:Scope}{cl:List (PySem.Str × Addr)} (F:LamAt hp L f q ps b sc cl) (k:∀ z o,z≠L->hp z=some (.obj o)->(∀ es ep t,o.data≠.set es ep t)->hp' z=some (.obj o)/\z≠L'):LamAt hp' L' f q ps b sc cl:=by obtain ⟨c,pm,ctv,oc,vs,tq,h1,h2,h3,h4,h5,h6⟩:=F.ex;have a1:=k _ _ h2 h1 (λes ep t e=>by cases e);have a2:=k _ _ h4 h3 (λes ep t e=>by rw[h5]at e;cases e);exact ⟨c,pm,ctv,oc,vs,tq,a1.1,a1.2,a2.1,a2.2,h5,h6⟩
theorem JunkF.keep {B:Shared}{hp hp':Hp}{L L' f jl:Addr}{js:List Int} (F:JunkF B hp L f jl js) (k:∀ z o,z≠L->hp z=some o->(∀ x,o≠.dict x)->(∀ x,o≠.ns x)->(∀ x,o≠.atr x)->(∀ x es ep t,o = .obj x->x.data≠.set es ep t)->hp' z=some o/\z≠L'):JunkF B hp' L' f jl js:=by
 obtain ⟨cJ,h1,h2,h3,h4⟩:=F.ex;have a2:=k _ _ h3 h2 (by simp) (by simp) (by simp) (by simp);refine ⟨cJ,h1.keep λz o hz e hs=>k z _ hz e (by simp) (by simp) (by simp) λx es ep t e'=>?_,a2.1,a2.2,?_⟩
 .cases e';exact hs es ep t
 .rcases h4 with ⟨e,hz⟩ | h4
  .have a4:=k _ _ hz e (by simp) (by simp) (by simp) (by simp);exact .inl a4
  .exact .inr h4
theorem JunkF.fn {B:Shared}{hp:Hp}{L f jl:Addr}{js:List Int} (F:JunkF B hp L f jl js):∃ o fd,hp f=some (.obj o)/\f≠L/\o.cls = .type "function" /\ o.data = .func fd:=by obtain ⟨cJ,h1,_⟩:=F.ex;obtain ⟨c,pm,ctv,oc,vs,tq,h1,h2,_⟩:=h1.ex;exact ⟨_,_,h1,h2,rfl,rfl⟩
section
theorem Zos {f jl:Addr}{js:List Int}{k:Int}{Q:QV} (G:Gnd (KW W0) B) (F:JunkF B hp env.locals f jl js) (hroom:A.depth < recursionLimit) (hu:A.units + 20 < cLine) (h:Q (.bool (js.contains k)) hp) :
  CL (model PW W0) A E B env (.ref f) m [.int k] hp Q:=by
 obtain ⟨cJ,h1,h2,h3,h4⟩:=F.ex;refine Zqf (bs:=[(S "x",.int k)]) G h1 hroom (λs vs c pm ctv hv=>?_) (by rfl) (by decide) (λL c hL hLe=>?_)
 .obtain ⟨v,rfl,h1⟩:=Zb6 hv;exact ⟨[(S "x",v)],rfl,rfl,VRs.one h1⟩
 .have g0:locOf [(S "x",AV.int k)] (S "x")=some (.int k):=rfl;refine Zcs (Zaa g0 (Zoi (c:=cJ) rfl (Hp.snt h3 h2) (Hp.ne_of h2 hL) (Zkk (h4.call hL) ?_ ⟨hp,λa o e=>⟨e,?_⟩,h⟩)))
  .show A.units + _ + 4 < _;(exact F20 0x84434700481457040 0x11 rfl hu)
  .rintro rfl;rw[Hp.sn _ _ hLe,hL]at e;cases e
end
structure JIn (js:List Int) (kvs:List (Int × AV)) (i:Nat) (ks:List Int):Prop where
 nd:ks.Nodup
 mem:∀ k,k ∈ ks ↔ k ∈ (kvs.take i).map (·.1)/\js.contains k=true
theorem JIn.step {js:List Int}{kvs:List (Int × AV)}{i:Nat}{ks:List Int}{k:Int}{v:AV} (P:JIn js kvs i ks) (hnd:(kvs.map (·.1)).Nodup) (hkv:kvs[i]?=some (k,v)) :
  k ∉ ks/\(js.contains k=true->JIn js kvs (i + 1) (k :: ks))/\(js.contains k=false->JIn js kvs (i + 1) ks):=by
 have et:(kvs.take (i + 1)).map (·.1)=(kvs.take i).map (·.1) ++ [k]:=by rw[List.take_add_one,hkv];simp
 have hk:k ∉ (kvs.take i).map (·.1):=λhm=>by have e:=List.take_append_drop (i + 1) kvs;rw[<-e,List.map_append,et]at hnd;have:=(List.nodup_append.mp (List.nodup_append.mp hnd).1).2.2 k hm k (by simp);exact this rfl
 refine ⟨λh=>hk ((P.mem k).mp h).1,λhp=>⟨List.nodup_cons.mpr ⟨λh=>hk ((P.mem k).mp h).1,P.nd⟩,λk'=>?_⟩,λhp=>⟨P.nd,λk'=>?_⟩⟩
 .rw [List.mem_cons,P.mem,et,List.mem_append,List.mem_singleton];constructor
  .rintro (rfl | ⟨h1,h2⟩)
   .exact ⟨.inr rfl,hp⟩
   .exact ⟨.inl h1,h2⟩
  .rintro ⟨h1 | rfl,h2⟩
   .exact .inr ⟨h1,h2⟩
   .exact .inl rfl
 .rw [P.mem,et,List.mem_append,List.mem_singleton];constructor
  .rintro ⟨h1,h2⟩;exact ⟨.inl h1,h2⟩
  .rintro ⟨h1 | rfl,h2⟩
   .exact ⟨h1,h2⟩
   .rw [hp]at h2;cases h2
noncomputable def jkS (i:Nat):Stmt:=(kids ((Zbg (mS 5)).getD 5 (.Pass ⟨0,0,0,0⟩))).getD i (.Pass ⟨0,0,0,0⟩)
section
theorem Zji {L d p f jl:Addr}{kvs:List (Int × AV)}{js:List Int}{KK:QX} (G:Gnd (KW W0) B) (hh:A.handled=none) (hroom:A.depth < recursionLimit) (hu:A.units + 20 < cLine) (F:JunkF B hp L f jl js) (hjs:js.length<=61)
  (k1:m (S "b2j")=some (.ref d)) (k2:m (S "isjunk")=some (.ref f)) (k3:m (S "junk")=some (.ref p))
  (hpp:hp p=some (.obj (set0 W0))) (hpL:p≠L) (hd4:hp d=some (.dict kvs)) (hdL:d≠L) (hnd:(kvs.map (·.1)).Nodup)
  (hK:∀ m' hp' ob ks,(∀ y,y ≠ "elt" -> m' (S y)=m (S y))->hp' p=some (.obj ob)->TSet ob (ledW W0) ks->JIn js kvs kvs.length ks->hp' d=some (.dict kvs)->(∀ z o,z≠p->hp z=some o->hp' z=some o)->KK .next m' hp') :
  EX (model PW W0) A (λ_ _=>False) B (callEnv Zbq L 188) (jkS 0) m hp KK:=by
 refine Zip G hh (Zaa k1 ⟨d,kvs,rfl,hd4,hdL,λvw it od hvw hvL hvd hit hiL hid hiv=>?_⟩);have hpd:p≠d:=λe=>by rw[e,hd4]at hpp;cases hpp
 have hpi:p≠it:=Hp.ne_of hpp hit;let Iq:Nat->Loc->Hp->Prop:=λi m₂ hp₂=>(∀ y,y ≠ "elt" -> m₂ (S y)=m (S y))/\hp₂ d=some (.obj od)/\(∀ z o,z≠d->z≠p->hp z=some o->hp₂ z=some o)/\∃ ob ks,hp₂ p=some (.obj ob)/\TSet ob (ledW W0) ks/\JIn js kvs i ks;refine ⟨Iq,λob=>?_,λi m₂ hp₂ ob x=>?_,λi m₂ hp₂ x=>x.2.1,λi k v m₂ hp₂ ob hkv x hob=>?_,λm₂ hp₂ x=>?_⟩
 .refine ⟨λ_ _=>rfl,Hp.snt (Ne.symm hid) (Hp.ss ..),λz o hz _ e=>?_,set0 W0,[],?_,TSet.new W0,.nil,λk=>by simp⟩
  .exact Hp.snt (Hp.ne_of e hit) (Hp.snt hz (Hp.snt (Hp.ne_of e hvw) e))
  .exact Hp.snt hpi (Hp.snt hpd (Hp.snt (Hp.ne_of hpp hvw) hpp))
 .obtain ⟨x1,x4,x5,ob',ks,x6,x7,x8⟩:=x;exact ⟨x1,Hp.snt (Ne.symm hid) x4,λz o hz hz' e=>Hp.snt (Hp.ne_of e hit) (x5 z o hz hz' e),ob',ks,Hp.snt hpi x6,x7,x8⟩
 .obtain ⟨x1,x4,x5,ob',ks,x6,x7,x8⟩:=x;obtain ⟨y1,y2,y3⟩:=x8.step hnd hkv;refine Zak ?_;have F':JunkF B hp₂ L f jl js:=F.keep λz o hz e n1 n2 n3 n4=>⟨x5 z o (λe'=>by rw[e',hd4]at e;cases e;exact n1 _ rfl) (λe'=>by rw[e',hpp]at e;cases e;exact n4 _ _ _ _ rfl rfl) e,hz⟩;obtain ⟨fo,fd,f1,f2,f3,f4⟩:=F'.fn;have g1:(upd m₂ (S "elt") (.int k)) (S "isjunk")=some (.ref f):=by rw[ug,if_neg (by decide),x1 _ (by decide)];exact k2
  have g2:(upd m₂ (S "elt") (.int k)) (S "junk")=some (.ref p):=by rw[ug,if_neg (by decide),x1 _ (by decide)];exact k3
  have q0:∀ y,y ≠ "elt" -> (upd m₂ (S "elt") (.int k)) (S y)=m (S y):=λy hy=>by rw[ug,if_neg hy];exact x1 y hy
  refine Zb0 λKT hT=>?_;refine Zac (Zcf (Za3 (Zmm f4 (Zaa g1 ⟨rfl,Zab (Zaa (by first | assumption | rfl) (Zae ⟨f1,f2,Zos (A:=A) G F' hroom hu (Zaj ?_)⟩))⟩))));cases hjk:js.contains k with
  | true=>
   refine if_t ?_;have P':=y2 hjk;refine Zac (Zcg (Zc0 PySem.F.slot_set_add PySem.F.type_set_add PySem.F.plainAttrs_set (Zaa (v:=.ref p) g2 ⟨p,rfl,Znt x6 hpL x7,Zab (Zaa (v:=.int k) (by first | assumption | rfl) (Zae (Zit x6 hpL x7 y1 ?_ λo' T'=>?_)))⟩)))
   .have:=Zgs P'.nd (l':=js) λz hz=>by simpa using ((P'.mem z).mp hz).2
    simp only[List.length_cons]at this;(exact Nat.lt_of_lt_of_le ‹_› ‹_›)
   .refine ⟨by simp,by simp,by simp,Zal (Zal ?_)⟩;exact (hT _ _ _ ⟨.inl rfl,⟨q0,Hp.snt (Ne.symm hpd) x4,λz o hz hz' e=>Hp.snt hz' (x5 z o hz hz' e),o',k :: ks,Hp.ss ..,T',P'⟩,Hp.snt (Ne.symm hpi) hob⟩)
  | false=>
   exact if_f (Zal (Zal (hT _ _ _ ⟨.inl rfl,⟨q0,x4,x5,ob',ks,x6,x7,y3 hjk⟩,hob⟩)))
 .obtain ⟨x1,x4,x5,ob',ks,x6,x7,x8⟩:=x;refine hK _ _ ob' ks x1 (by rw[Hp.del_ne _ hpi,Hp.sn _ _ hpd];exact x6) x7 x8 (by rw[Hp.del_ne _ (Ne.symm hid),Hp.ss]) λz o hz e=>?_;rw[Hp.del_ne _ (Hp.ne_of e hit)];by_cases hzd:z=d
  .subst hzd;rw[Hp.ss,<-e,hd4]
  .exact Hp.snt hzd (x5 z o hzd hz e)
theorem Zlu {L d p:Addr}{kvs:List (Int × AV)}{ks:List Int}{ob:Obj}{KK:QX} (hh:A.handled=none) (f3:m (S "b2j")=some (.ref d)) (f4:m (S "junk")=some (.ref p))
  (hpp:hp p=some (.obj ob)) (hpL:p≠L) (T:TSet ob (ledW W0) ks) (hnd:ks.Nodup) (hd4:hp d=some (.dict kvs)) (hdL:d≠L) (hlen:kvs.length<=5000) (hin:∀ k ∈ ks,dget kvs k≠none)
  (hK:∀ m' hp' kvs',(∀ y,y ≠ "elt" -> m' (S y)=m (S y))->(∀ z o,z≠d->hp z=some o->hp' z=some o)->hp' d=some (.dict kvs')->(∀ k,dget kvs' k=if k ∈ ks then none else dget kvs k)->KK .next m' hp') :
  EX (model PW W0) A (λ_ _=>False) B (callEnv Zbq L 188) (jkS 1) m hp KK:=by
 refine Zio hh (Zaa f4 ⟨p,ob,ks,rfl,hpp,hpL,T,λit ord hord hit hiL=>?_⟩);have hpd:p≠d:=λe=>by rw[e,hd4]at hpp;cases hpp
 have hod:ord.Nodup:=hord.nodup_iff.mpr hnd;have hdi:d≠it:=Hp.ne_of hd4 hit;let Iq:Nat->Loc->Hp->Prop:=λi m₂ hp₂=>(∀ y,y ≠ "elt" -> m₂ (S y)=m (S y))/\(∀ z o,z≠d->hp z=some o->hp₂ z=some o)/\∃ kvs',hp₂ d=some (.dict kvs')/\kvs'.length<=5000/\∀ k,dget kvs' k=if k ∈ ord.take i then none else dget kvs k
 refine ⟨Iq,λo=>⟨λ_ _=>rfl,λz o' _ e=>Hp.snt (Hp.ne_of e hit) e,kvs,Hp.snt hdi hd4,hlen,λk=>by simp⟩,λi m₂ hp₂ o x=>?_,λi m₂ hp₂ x=>x.2.1 _ _ hpd hpp,λi k m₂ hp₂ o hk x hio=>?_,λm₂ hp₂ x=>?_⟩
 .obtain ⟨x1,x2,kvs',x3,x4,x5⟩:=x;exact ⟨x1,λz o' hz e=>Hp.snt (Hp.ne_of e hit) (x2 z o' hz e),kvs',Hp.snt hdi x3,x4,x5⟩
 .obtain ⟨x1,x2,kvs',x3,x4,x5⟩:=x;have hkn:k ∉ ord.take i:=λhm=>by have e:=List.take_append_drop (i + 1) ord;rw[List.take_add_one,hk]at e;rw[<-e]at hod;exact (List.nodup_append.mp (List.nodup_append.mp hod).1).2.2 k hm k (by simp) rfl
  have q0:∀ y,y ≠ "elt" -> (upd m₂ (S "elt") (.int k)) (S y)=m (S y):=λy hy=>by rw[ug,if_neg hy];exact x1 y hy
  refine Zak (Zac (Zir (Zaa (v:=.ref d) (by rw[q0 _ (by decide)];exact f3) (Zaa (v:=.int k) (by first | assumption | rfl) ⟨d,kvs',k,rfl,rfl,x3,hdL,x4,?_,?_⟩))))
  .rw [x5,if_neg hkn];exact hin k (hord.mem_iff.mp (List.mem_of_getElem? hk))
  .refine Zal ⟨⟨q0,λz o' hz e=>Hp.snt hz (x2 z o' hz e),Zbw kvs' k,Hp.ss ..,Nat.le_trans (List.length_filter_le _ _) x4,λk'=>?_⟩,Hp.snt (Ne.symm hdi) hio⟩;rw[Zf0,x5,List.take_add_one,hk];by_cases e:k'=k
   .rw [if_pos e,if_pos (by simp[e])]
   .rw [if_neg e];by_cases e':k' ∈ ord.take i
    .rw [if_pos e',if_pos (by simp[e'])]
    .rw [if_neg e',if_neg (by simp[e',e])]
 .obtain ⟨x1,x2,kvs',x3,x4,x5⟩:=x;rw[<-hord.length_eq,List.take_length]at x5;exact hK _ _ kvs' x1 (λz o hz e=>by rw[Hp.del_ne _ (Hp.ne_of e hit)];exact x2 z o hz e) (by rw[Hp.del_ne _ hdi];exact x3) λk=>by
   rw[x5];by_cases e:k ∈ ord
   .rw [if_pos e,if_pos (hord.mem_iff.mp e)]
   .rw [if_neg e,if_neg (λh=>e (hord.mem_iff.mpr h))]
end
inductive JV (B:Shared) (hp:Hp) (L:Addr):AV->List Int->Prop where
 | none:JV B hp L .none []
 | fn {f jl:Addr}{js:List Int} (F:JunkF B hp L f jl js):JV B hp L (.ref f) js
theorem JV.keep {B:Shared}{hp hp':Hp}{L L':Addr}{v:AV}{js:List Int} (F:JV B hp L v js) (k:∀ z o,z≠L->hp z=some o->(∀ x,o≠.dict x)->(∀ x,o≠.ns x)->(∀ x,o≠.atr x)->(∀ x es ep t,o = .obj x->x.data≠.set es ep t)->hp' z=some o/\z≠L'):JV B hp' L' v js:=by
 cases F with
 | none=>exact .none
 | fn F=>exact .fn (F.keep k)
theorem JV.nbi {B:Shared}{hp:Hp}{L:Addr}{v:AV}{js:List Int} (F:JV B hp L v js):∀ n,v≠.bi n:=by cases F <;> (intro n e;cases e)
theorem TSet.iset {h:Heap}{a:Addr}{o:Obj}{led:Bool}{ks:List Int}{f:Int->Bool} (ho:h.get? a=some o) (T:TSet o led ks) (hn:ks.length<=4000) (hf:∀ k,f k=true ↔ k ∈ ks):ISet h a f ks.length:=by
 obtain ⟨hex,es,ep,t,L,hd,hes,hpm,T,hl,hfew⟩:=T;have hlen:es.size=ks.length:=by rw[<-Array.length_toList,hes,List.length_map,<-hpm.length_eq,List.length_map]
 refine ⟨o,es,ep,t,ho,hex,hd,λe he=>?_,λk=>?_,by rw[hlen];have:scanBound=4096:=rfl;(exact Nat.lt_of_le_of_lt ‹_› (by decide)),by rw[hlen];exact T.fits hfew,hlen⟩
 .rw [hes]at he;obtain ⟨p,_,rfl⟩:=List.mem_map.mp he;exact ⟨⟨p.1,by simp[Value.isInt,ent],rfl⟩,rfl⟩
 .rw [hf,<-hpm.mem_iff,hes];constructor
  .intro h;obtain ⟨p,hp,rfl⟩:=List.mem_map.mp h;exact ⟨ent p,List.mem_map_of_mem hp,by simp[Value.isInt,ent]⟩
  .rintro ⟨e,he,hk⟩;obtain ⟨p,hp,rfl⟩:=List.mem_map.mp he;have:p.1=k:=by simpa [Value.isInt,ent] using hk
   exact this ▸ List.mem_map_of_mem hp
section
variable {A:Around}{E:ET}{B:Shared}{env:Env}{m:Loc}{hp hp':Hp}
theorem Zmh {M:Model}{sts:List Stmt}{Q:QX} (c:∀ s,Rel B (hp.set env.locals (.ns m)) s->Rel B (hp'.set env.locals (.ns m)) s) (h:EXs M A E B env sts m hp' Q):EXs M A E B env sts m hp Q:=λs r=>h s (c s r)
theorem Zh9 {L d p:Addr}{jv:AV}{kvs:List (Int × AV)}{js:List Int}{KK:QX} (G:Gnd (KW W0) B) (hh:A.handled=none) (hroom:A.depth < recursionLimit) (hu:A.units + 20 < cLine) (F:JV B hp L jv js) (hjs:js.length<=61)
  (k1:m (S "b2j")=some (.ref d)) (k2:m (S "isjunk")=some jv) (k3:m (S "junk")=some (.ref p))
  (hpp:hp p=some (.obj (set0 W0))) (hpL:p≠L) (hd4:hp d=some (.dict kvs)) (hdL:d≠L) (hnd:(kvs.map (·.1)).Nodup) (hlen:kvs.length<=4000)
  (hK:∀ m' hp' ob ks kvs',(∀ y,y ≠ "elt" -> m' (S y)=m (S y))->hp' p=some (.obj ob)->TSet ob (ledW W0) ks->(∀ k,k ∈ ks ↔ k ∈ kvs.map (·.1)/\js.contains k=true)->ks.length<=4000->hp' d=some (.dict kvs')->(∀ k,dget kvs' k=if k ∈ ks then none else dget kvs k)->(∀ z o,z≠p->z≠d->hp z=some o->hp' z=some o)->KK .next m' hp') :
  EX (model PW W0) A (λ_ _=>False) B (callEnv Zbq L 188) ((Zbg (mS 5)).getD 5 (.Pass ⟨0,0,0,0⟩)) m hp KK:=by
 cases F with
 | none=>exact Zcf (Za3 (Zaa k2 (Zma (if_f (Zal (hK _ _ _ [] kvs (λ_ _=>rfl) hpp (TSet.new W0) (by simp) (by simp) hd4 (by simp) λ_ _ _ _ e=>e))))))
 | @fn f jl _ F=>
  obtain ⟨fo,fd,f1,f2,f3,f4⟩:=F.fn;refine Zcf (Za3 (Zaa k2 (Zoa f1 f2 f3 (if_t ?_))));refine Zac (Zji G hh hroom hu F hjs k1 k2 k3 hpp hpL hd4 hdL hnd λm1 hp1 ob ks x1 x2 x3 x4 x5 x6=>?_);have hmem:∀ k,k ∈ ks ↔ k ∈ kvs.map (·.1)/\js.contains k=true:=λk=>by rw[x4.mem,List.take_length]
  have hks:ks.length<=61:=Nat.le_trans (Zgs x4.nd (l':=js) λz hz=>by simpa using ((hmem z).mp hz).2) hjs;refine Zac (Zlu hh (by rw[x1 _ (by decide)];exact k1) (by rw[x1 _ (by decide)];exact k3) x2 hpL x3 x4.nd x5 hdL (by (exact Nat.le_trans ‹_› (by decide))) (λk hk=>Zf1 ((hmem k).mp hk).1) λm2 hp2 kvs' y1 y2 y3 y4=>?_);have hpd:p≠d:=λe=>by rw[e,hd4]at hpp;cases hpp
  exact Zal (hK _ _ ob ks kvs' (λy hy=>(y1 y hy).trans (x1 y hy)) (y2 _ _ hpd x2) x3 hmem (by (exact Nat.le_trans ‹_› (by decide))) y3 y4 λz o hz hzd e=>y2 z o hzd (x6 z o hz e))
end
theorem Znx {bs:List Int}{k:Int}:idxN bs k≠[] ↔ bs.contains k=true:=by
 rw[List.contains_iff_mem];unfold idxN;constructor
 .intro h;obtain ⟨i,hi⟩:=List.exists_mem_of_ne_nil _ h;rw[List.mem_filter]at hi;exact List.mem_of_getElem? (eq_of_beq hi.2)
 .intro h e;obtain ⟨i,hi,e'⟩:=List.mem_iff_getElem.mp h;have:i ∈ (List.range bs.length).filter λi=>bs[i]? == some k:=by rw[List.mem_filter,List.mem_range];exact ⟨hi,by rw[List.getElem?_eq_getElem hi,e'];simp⟩
  rw[e]at this;cases this
noncomputable def jkB (bs js:List Int) (k:Int):Bool:=js.contains k && bs.contains k
section
theorem Zkz {x dx:Addr}{bv jv:AV}{ma:Loc}{bs js:List Int}{aj:Bool}{Q:QV} (G:Gnd (KW W0) B) (hh:A.handled=none) (hroom:A.depth + 1 < recursionLimit) (hu:A.units + 30 < cLine) (I:Ins hp env.locals x dx 242 ma) (hb:ma (S "b")=some bv) (hl:Src B hp env.locals bv bs)
  (hj:ma (S "isjunk")=some jv) (F:JV B hp env.locals jv js) (ha:ma (S "autojunk")=some (.bool aj)) (hn:bs.length < 200) (hjs:js.length<=61)
  (h:∀ hp' d j p nj,Ins hp' env.locals x dx 242 (upd (upd (upd ma (S "b2j") (.ref d)) (S "bjunk") (.ref j)) (S "bpopular") (.ref p))->JD hp' env.locals d (JJ bs (jkB bs js))->hp' j=some (.set (jkB bs js) nj)->j≠env.locals->(∀ z o,z≠dx->z≠env.locals->hp z=some o->hp' z=some o)->hp' env.locals=none->Q .none hp') :
  CL (model PW W0) A E B env (.ref 188) m [.ref x] hp Q:=by
 refine CD.cl (Zff (bs:=[(S "self",.ref x)]) (body:=Zbg (mS 5)) G (Zpm W0) (by kernel_rfl) rfl (by (exact Nat.lt_of_succ_lt ‹_›)) (λs vs hv _=>?_) (by kernel_rfl) (by decide) (λL hL hLe=>?_))
 .obtain ⟨v,rfl,h1⟩:=Zb6 hv;exact ⟨[(S "self",v)],BindsTo.of_eq rfl,rfl,VRs.one h1⟩
 .have hl':Src B (hp.set env.locals (.ns m)) L bv bs:=hl.call hL;have I':Ins (hp.set env.locals (.ns m)) L x dx 242 ma:=I.call hL;have F1:JV B (hp.set env.locals (.ns m)) L jv js:=F.keep λ_ _ hz e _ _ _ _=>⟨Hp.snt hz e,Hp.ne_of e hL⟩;have g0:locOf [(S "self",AV.ref x)] (S "self")=some (.ref x):=rfl;generalize hm0:locOf [(S "self",AV.ref x)]=m0 at *;have hLc:(hp.set env.locals (.ns m)) L=none:=Hp.snt hLe hL;have hcl:(hp.set env.locals (.ns m)) env.locals=some (.ns m):=Hp.ss ..;have hback:∀ z o,z≠env.locals->hp z=some o->(hp.set env.locals (.ns m)) z=some o:=λz o hz e=>Hp.snt hz e;generalize hp.set env.locals (.ns m)=hpc at *;have hdl:∀ ys,hpc dx≠some (.list ys):=λys e=>by rw[I'.at_]at e;cases e
  have hdE:dx≠env.locals:=I.dL;refine Zac (Zaq (Zb7 G g0 I' hb ?_ (hu:=hl.nbi)));refine Zac (Zba (Zfd λd hd hdL=>Zay G (by first | assumption | rfl) (I'.le ((Hp.Le.refl _).set hd _)) (Zak ?_)));have hddx:d≠dx:=Ne.symm (Hp.ne_of I'.at_ hd);have e1:(hpc.set d (.dict [])).set dx (.atr (upd ma (S "b2j") (.ref d)))=(hpc.set dx (.atr (upd ma (S "b2j") (.ref d)))).set d (.dict []):=Hp.sc _ _ _ hddx;rw[e1];have I1:Ins (hpc.set dx (.atr (upd ma (S "b2j") (.ref d)))) L x dx 242 (upd ma (S "b2j") (.ref d)):=I'.put;have hl1:Src B (hpc.set dx (.atr (upd ma (S "b2j") (.ref d)))) L bv bs:=hl'.put hdl;have F2:JV B (hpc.set dx (.atr (upd ma (S "b2j") (.ref d)))) L jv js:=F1.keep λz o hz e _ _ n _=>⟨Hp.snt (λe'=>by rw[e',I'.at_]at e;cases e;exact n _ rfl) e,hz⟩;have hbd:(hpc.set dx (.atr (upd ma (S "b2j") (.ref d)))) d=none:=Hp.snt hddx hd;have hle0:Hp.Le (hpc.del dx) (hpc.set dx (.atr (upd ma (S "b2j") (.ref d)))):=λz o e=>by
   have hz:z≠dx:=λh=>by subst h;simp[Hp.del]at e
   rw[Hp.del_ne _ hz]at e;rw[Hp.sn _ _ hz];exact e
  have hbn:∀ z,(hpc.set dx (.atr (upd ma (S "b2j") (.ref d)))) z=none->z≠dx/\z≠env.locals:=λz hz=>⟨λe=>(by rw[e,Hp.ss]at hz;cases hz),λe=>(by rw[e,Hp.sn _ _ (Ne.symm hdE),hcl]at hz;cases hz)⟩;generalize hpc.set dx (.atr (upd ma (S "b2j") (.ref d)))=hb1 at *;refine Zod (Ic x d bv hb1 L bs) (Zh8 G hh hl1 hbd hdL (by lia) (by first | assumption | rfl) (by first | assumption | rfl) (by first | assumption | rfl) λ_ _ x=>⟨rfl,x⟩) ?_;rintro m1 hp1 ⟨f1,f2,f3,⟨kvs,R⟩,f4⟩;have I2:=I1.le f3;have F3:JV B hp1 L jv js:=F2.keep λ_ _ hz e _ _ _ _=>⟨f3 _ _ e,hz⟩;refine Zac (Zba (Zof (Zat G (Zms W0) Zka (by decide) (λ_=>Zc7) ⟨rfl,λj hj' hjL=>Zay G f1 (I2.le ((Hp.Le.refl _).set hj' _)) (Zak ?_)⟩)));generalize hA2:(hp1.set j (.obj (set0 W0))).set dx (.atr (upd (upd ma (S "b2j") (.ref d)) (S "bjunk") (.ref j)))=hpA;obtain ⟨I3,hjA,hjdx,kA⟩:=Zha I2 hj' hA2;clear hA2;have F4:JV B hpA L jv js:=F3.keep λz o hz e _ _ n _=>⟨kA z o (λe'=>by rw[e',I2.at_]at e;cases e;exact n _ rfl) e,hz⟩;refine Zac (Zaq (Zb7 G (by first | assumption | rfl) I3 (by first | assumption | rfl) ?_ (hu:=F4.nbi)));have hjd:j≠d:=λe=>by rw[e,R.di]at hj';cases hj'
  refine Zac (Zh9 (A:=A.deeper (callEnv Zbq L 188)) G hh (by show A.depth + 1 < _;omega) (by show A.units + 3 + 20 < _;(exact F20 0x814534700481e57040 0x11 rfl hu)) F4 hjs (by first | assumption | rfl) (by first | assumption | rfl) (by first | assumption | rfl) hjA hjL (kA _ _ hddx R.di) R.dL R.nd (Nat.le_trans R.len (by lia)) λm2 hpB ob ks kvs' y0 y1 y2 y3 y4 y5 y6 y7=>?_);have s1:m2 (S "self")=some (.ref x):=by rw[y0 _ (by decide)];(first | assumption | rfl)
  have s2:m2 (S "b")=some bv:=by rw[y0 _ (by decide)];(first | assumption | rfl)
  have hxd:x≠d:=Hp.ne_of I1.ob hbd;have hxj:x≠j:=Hp.ne_of I2.ob hj';have I4:Ins hpB L x dx 242 (upd (upd ma (S "b2j") (.ref d)) (S "bjunk") (.ref j)):=⟨y7 _ _ hxj hxd I3.ob,y7 _ _ (Ne.symm hjdx) (Ne.symm hddx) I3.at_,I3.xL,I3.dL⟩;clear F1 F2 F3 F4;refine Zac (Zba (Zog (Zat G (Zms W0) Zka (by decide) (λ_=>Zc7) ⟨rfl,λp hp' hpL=>Zay G s1 (I4.le ((Hp.Le.refl _).set hp' _)) (Zak ?_)⟩)));generalize hB2:(hpB.set p (.set (λ_=>false) 0)).set dx (.atr (upd (upd (upd ma (S "b2j") (.ref d)) (S "bjunk") (.ref j)) (S "bpopular") (.ref p)))=hp4;obtain ⟨I5,hp4p,hpdx,kB⟩:=Zha I4 hp' hB2;clear hB2;have hkeep:∀ z o,z≠dx->z≠d->hp1 z=some o->hp4 z=some o:=λz o hz hzd e=>kB _ _ hz (y7 _ _ (Hp.ne_of e hj') hzd (kA _ _ hz e));have hj4:hp4 j=some (.obj ob):=kB _ _ hjdx y1;have hd4:hp4 d=some (.dict kvs'):=kB _ _ hddx y5;have hl4:Src B hp4 L bv bs:=(hl1.le f3).keep λz ys e=>hkeep _ _ (λh=>by rw[h,I2.at_]at e;cases e) (λh=>by rw[h,R.di]at e;cases e) e;refine Zac (Zaq (Zao (Zat G (Zbc W0) Zaz (by decide) (λ_=>Zbi) ⟨rfl,Zab (Zaa (v:=bv) (by first | assumption | rfl) (Zae (Zky hl4 (by lia) ?_)))⟩)));have hfj:∀ k,jkB bs js k=true ↔ k ∈ ks:=λk=>by
   rw[y3,jkB,Bool.and_eq_true,And.comm];refine and_congr_left λ_=>?_;rw[<-Znx];constructor
   .intro e;exact Zl4 λe'=>e (R.no k e')
   .intro e e';obtain ⟨v,hv⟩:=Option.ne_none_iff_exists'.mp (Zf1 e);exact R.ne k v hv e'
  have fin:∀ m5,EXs (model PW W0) (A.deeper (callEnv Zbq L 188)) (λ_ _=>False) B (callEnv Zbq L 188) [] m5 hp4 (RET L env m Q):=λm5=>by
   have hjLL:j≠(callEnv Zbq L 188).locals:=hjL;refine Zmh (hp':=hp4.set j (.set (jkB bs js) ks.length)) (λs r=>r.back hj4 hjLL (TSet.iset (r.at hj4 hjLL).1 y2 y4 hfj)) ?_;have l5:∀ z o,z≠j->hp4 z=some o->(hp4.set j (.set (jkB bs js) ks.length)) z=some o:=λz o hz e=>Hp.snt hz e;have j5:(hp4.set j (.set (jkB bs js) ks.length)) j=some (.set (jkB bs js) ks.length):=Hp.ss ..;generalize hp4.set j (.set (jkB bs js) ks.length)=hp5 at l5 j5;have hkeep5:∀ z o,z≠dx->z≠d->hp1 z=some o->hp5 z=some o:=λz o hz hzd e=>l5 _ _ (Hp.ne_of e hj') (hkeep z o hz hzd e);have hb1d:∀ z o,hb1 z=some o->z≠d:=λz o e=>Hp.ne_of e hbd;have eE:hb1 env.locals=some (.ns m):=hle0 _ _ (by rw[Hp.del_ne _ (Ne.symm hdE)];exact hcl);refine Zal (Zes (hkeep5 _ _ (Ne.symm hdE) (hb1d _ _ eE) (f3 _ _ eE)) ?_);have hjE:j≠env.locals:=λe=>by rw[<-e]at eE;rw[f3 _ _ eE]at hj';cases hj'
   have hdE2:d≠env.locals:=(hbn d hbd).2;have hjL2:j≠L:=hjL;refine h _ d j p ks.length ⟨?_,?_,I.xL,I.dL⟩ ⟨kvs',?_,hdE2,λk hk=>?_,λk v hk=>?_⟩ ?_ hjE (λz o hz hzE e=>?_) (by simp[Hp.cut])
   .rw [Hp.cut_eq I.xL I4.xL];exact l5 _ _ hxj I5.ob
   .rw [Hp.cut_eq I.dL I4.dL];exact l5 _ _ (Ne.symm hjdx) I5.at_
   .rw [Hp.cut_eq hdE2 R.dL];exact l5 _ _ (Ne.symm hjd) hd4
   .unfold JJ;split
    .rfl
    .rename_i hf;rw[y6,if_neg (λe=>hf ((hfj k).mpr e))]at hk;exact R.no k hk
   .have hf:k ∉ ks:=λe=>by rw[y6,if_pos e]at hk;cases hk
    rw[y6,if_neg hf]at hk;obtain ⟨a,rfl,ha,haL,hba⟩:=R.yes k v hk;have haE:a≠env.locals:=(hbn a hba).2;have had:a≠d:=λe=>by rw[e,R.di]at ha;cases ha
    have hadx:a≠dx:=(hbn a hba).1;have hJ:JJ bs (jkB bs js) k=idxN bs k:=by unfold JJ;rw[if_neg (λe=>hf ((hfj k).mp e))]
    refine ⟨a,rfl,?_,haE,by rw[hJ];exact R.ne k _ hk⟩;rw[Hp.cut_eq haE haL,hJ];exact hkeep5 _ _ hadx had ha
   .rw [Hp.cut_eq hjE hjL2];exact j5
   .have hc:hpc z=some o:=hback z o hzE e;have hz1:hb1 z=some o:=hle0 _ _ (by rw[Hp.del_ne _ hz];exact hc);rw[Hp.cut_eq hzE (Hp.ne_of hc hLc)];exact hkeep5 _ _ hz (hb1d _ _ hz1) (f3 _ _ hz1)
  refine Zac (Zcf (Zaw (Zag (Za3 (Zb7 G (by first | assumption | rfl) I5 (by first | assumption | rfl) (Zaj ?_))))));cases aj with
  | false=>exact if_f (if_f (Zal (fin _)))
  | true=>
   refine if_t (Zag (Zaf (Zaa (by first | assumption | rfl) (Zah (Zkl (Zaj ?_))))));exact Zbu (by (exact F10 0x73c8582c85740 0x11 rfl hn)) (if_f (Zal (fin _)))
end
noncomputable def Zkg:List String:=["isjunk", "a", "b", "autojunk", "matching_blocks", "opcodes", "fullbcount", "b2j", "bjunk", "bpopular"]
noncomputable def NotIs (B:Shared) (hp:Hp) (L:Addr) (nv av:AV):Prop:=(av = .none/\nv.isNone=false)\/∃ a,nv = .ref a/\Other B hp L a av
theorem Other.call {B:Shared}{hp:Hp}{L L' a:Addr}{v:AV}{m:Loc} (x:Other B hp L a v) (h:hp L'=none):Other B (hp.set L (.ns m)) L' a v:=by
 rcases x with e | e | ⟨b,xs,ys,e,h1,h2,h3⟩
 .exact .inl e
 .exact .inr (.inl e)
 .exact .inr (.inr ⟨b,xs,ys,e,h1.call h,h2.call h,h3⟩)
theorem Other.put {B:Shared}{hp:Hp}{L a c:Addr}{o:AO}{v:AV} (x:Other B hp L a v) (h:∀ ys,hp c≠some (.list ys)):Other B (hp.set c o) L a v:=by
 rcases x with e | e | ⟨b,xs,ys,e,h1,h2,h3⟩
 .exact .inl e
 .exact .inr (.inl e)
 .exact .inr (.inr ⟨b,xs,ys,e,h1.put h,h2.put h,h3⟩)
theorem NotIs.call {B:Shared}{hp:Hp}{L L':Addr}{nv v:AV}{m:Loc} (x:NotIs B hp L nv v) (h:hp L'=none):NotIs B (hp.set L (.ns m)) L' nv v:=by
 rcases x with e | ⟨a,e,y⟩
 .exact .inl e
 .exact .inr ⟨a,e,y.call h⟩
theorem NotIs.put {B:Shared}{hp:Hp}{L c:Addr}{o:AO}{nv v:AV} (x:NotIs B hp L nv v) (h:∀ ys,hp c≠some (.list ys)):NotIs B (hp.set c o) L nv v:=by
 rcases x with e | ⟨a,e,y⟩
 .exact .inl e
 .exact .inr ⟨a,e,y.put h⟩
theorem NotIs.nbi {B:Shared}{hp:Hp}{L:Addr}{nv v:AV} (x:NotIs B hp L nv v):∀ n,v≠.bi n:=by rcases x with ⟨e,_⟩ | ⟨a,_,e | ⟨_,e⟩ | ⟨b,_,_,e,_⟩⟩ <;> (subst e;intro _ h;cases h)
section
theorem Zhs {nv av:AV}{Q:QV} (x:NotIs B hp env.locals nv av) (h:Q (.bool false) hp):OP2 (model PW W0) A E B env (compareOp .Is) m nv av hp Q:=by
 rcases x with ⟨rfl,e⟩ | ⟨a,rfl,y⟩
 .exact Zce (by rw[e];exact h)
 .exact Zib y h
theorem Zoo {x dx:Addr}{nv av:AV}{ma:Loc}{Q:QV} (G:Gnd (KW W0) B) (hroom:A.depth < recursionLimit) (I:Ins hp env.locals x dx 242 ma) (ha:ma (S "a")=some av) (hn:NotIs B hp env.locals nv av)
  (h:Q .none (hp.set dx (.atr (upd (upd (upd ma (S "a") nv) (S "matching_blocks") .none) (S "opcodes") .none)))):CL (model PW W0) A E B env (.ref 174) m [.ref x,nv] hp Q:=by
 refine CD.cl (Zff (bs:=[(S "a",nv),(S "self",.ref x)]) (body:=Zbg (mS 3)) G (Zra W0) (by kernel_rfl) rfl hroom (λs vs hv _=>?_) (by kernel_rfl) (by decide) (λL hL hLe=>?_))
 .obtain ⟨v,u,rfl,h1,h2⟩:=Zbs hv;exact ⟨[(S "self",v),(S "a",u)],BindsTo.of_eq rfl,rfl,.mk h2 (.mk h1 .nil)⟩
 .have I':Ins (hp.set env.locals (.ns m)) L x dx 242 ma:=I.call hL;have g0:locOf [(S "a",nv),(S "self",AV.ref x)] (S "self")=some (.ref x):=rfl;have g1:locOf [(S "a",nv),(S "self",AV.ref x)] (S "a")=some nv:=rfl;generalize hm0:locOf [(S "a",nv),(S "self",AV.ref x)]=m0 at *;refine Zac (Zem ?_);have hn':NotIs B (hp.set env.locals (.ns m)) L nv av:=hn.call hL;refine Zac (Zcf (Zaf (Zaa g1 (Zb7 G g0 I' ha (Zhs hn' (Zaj ?_)) (hu:=hn.nbi)))));refine if_f ?_;refine Zal (Zac ?_);refine Zb2 (Zaa g1 (Zay G g0 I' ?_));have I1:=I'.put (ma':=upd ma (S "a") nv);refine Zac (Zba (Zch (Zay G g0 I1 ?_)));rw[Hp.set_set];have I2:=I'.put (ma':=upd (upd ma (S "a") nv) (S "matching_blocks") .none);refine Zay G g0 I2 ?_;rw[Hp.set_set];refine Zal ?_;exact Znm hL I.dL I'.dL h
end
section
theorem Zmo {x dx:Addr}{nv av jv:AV}{ma:Loc}{bs js:List Int}{aj:Bool}{Q:QV} (G:Gnd (KW W0) B) (hh:A.handled=none) (hroom:A.depth + 2 < recursionLimit) (hu:A.units + 40 < cLine) (I:Ins hp env.locals x dx 242 ma) (hb:ma (S "b")=some av) (hni:NotIs B hp env.locals nv av) (hl:Src B hp env.locals nv bs)
  (hj:ma (S "isjunk")=some jv) (F:JV B hp env.locals jv js) (ha:ma (S "autojunk")=some (.bool aj)) (hc:ma (S "_SequenceMatcher__chain_b")=none) (hn:bs.length < 200) (hjs:js.length<=61)
  (h:∀ hp' d j p nj,Ins hp' env.locals x dx 242 (upd (upd (upd (upd (upd (upd (upd ma (S "b") nv) (S "matching_blocks") .none) (S "opcodes") .none) (S "fullbcount") .none) (S "b2j") (.ref d)) (S "bjunk") (.ref j)) (S "bpopular") (.ref p))->JD hp' env.locals d (JJ bs (jkB bs js))->hp' j=some (.set (jkB bs js) nj)->j≠env.locals->(∀ z o,z≠dx->z≠env.locals->hp z=some o->hp' z=some o)->hp' env.locals=none->Q .none hp') :
  CL (model PW W0) A E B env (.ref 181) m [.ref x,nv] hp Q:=by
 refine CD.cl (Zff (bs:=[(S "b",nv),(S "self",.ref x)]) (body:=Zbg (mS 4)) G (Zq9 W0) (by kernel_rfl) rfl (by (exact ul0 ‹_›)) (λs vs hv _=>?_) (by kernel_rfl) (by decide) (λL hL hLe=>?_))
 .obtain ⟨v,u,rfl,h1,h2⟩:=Zbs hv;exact ⟨[(S "self",v),(S "b",u)],BindsTo.of_eq rfl,rfl,.mk h2 (.mk h1 .nil)⟩
 .have I':Ins (hp.set env.locals (.ns m)) L x dx 242 ma:=I.call hL;have hl':Src B (hp.set env.locals (.ns m)) L nv bs:=hl.call hL;have F':JV B (hp.set env.locals (.ns m)) L jv js:=F.keep λ_ _ hz e _ _ _ _=>⟨Hp.snt hz e,Hp.ne_of e hL⟩;have hdl:∀ ys,(hp.set env.locals (.ns m)) dx≠some (.list ys):=λys e=>by rw[I'.at_]at e;cases e
  have g0:locOf [(S "b",nv),(S "self",AV.ref x)] (S "self")=some (.ref x):=rfl;have g1:locOf [(S "b",nv),(S "self",AV.ref x)] (S "b")=some nv:=rfl;generalize hm0:locOf [(S "b",nv),(S "self",AV.ref x)]=m0 at *;refine Zac (Zem ?_);have hn':NotIs B (hp.set env.locals (.ns m)) L nv av:=hni.call hL;refine Zac (Zcf (Zaf (Zaa g1 (Zb7 G g0 I' hb (Zhs hn' (Zaj ?_)) (hu:=hni.nbi)))));refine if_f ?_;refine Zal (Zac ?_);refine Zb2 (Zaa g1 (Zay G g0 I' ?_));have I1:=I'.put (ma':=upd ma (S "b") nv);refine Zac (Zba (Zch (Zay G g0 I1 ?_)));rw[Hp.set_set];have I2:=I'.put (ma':=upd (upd ma (S "b") nv) (S "matching_blocks") .none);refine Zay G g0 I2 ?_;rw[Hp.set_set];have I3:=I'.put (ma':=upd (upd (upd ma (S "b") nv) (S "matching_blocks") .none) (S "opcodes") .none);refine Zac (Zb2 (Zch (Zay G g0 I3 ?_)));rw[Hp.set_set];have I4:=I'.put (ma':=upd (upd (upd (upd ma (S "b") nv) (S "matching_blocks") .none) (S "opcodes") .none) (S "fullbcount") .none);refine Zac (Zcg (Zmj G (clsS W0) (f:=188) (by kernel_rfl) (by kernel_rfl) (by kernel_rfl) (Zaa g0 ⟨x,dx,_,rfl,I4,?_,?_⟩)))
  ·(first | assumption | rfl)
  refine Zkz (A:=A.deeper (callEnv Zm1 L 181)) G hh (by show A.depth + 1 + 1 < _;omega) (by show A.units + 3 + 30 < _;(exact F20 0x81e534700482857040 0x11 rfl hu)) I4 (by first | assumption | rfl) (hl'.put hdl) (by first | assumption | rfl) (F'.keep λz o hz e _ _ n _=>⟨Hp.snt (λe'=>by rw[e',I'.at_]at e;cases e;exact n _ rfl) e,hz⟩) (by first | assumption | rfl) hn hjs λhp' d j p nj i1 i2 i3 i4 i5 i6=>?_;refine ⟨by simp,by simp,by simp,?_⟩;change j≠L at i4;have keepz:∀ z o,z≠dx->z≠L->(hp.set env.locals (.ns m)) z=some o->hp' z=some o:=λz o hz hzL e=>i5 z o hz hzL (Hp.snt hz e);have hle:hp' env.locals=some (.ns m):=keepz _ _ (Ne.symm I.dL) (Ne.symm hLe) (Hp.ss ..);have hjE:j≠env.locals:=λe=>by rw[e,hle]at i3;cases i3
  refine Zal (Zes hle (h _ d j p nj ⟨?_,?_,I.xL,I.dL⟩ (i2.move (λz o e hns hz=>?_)) ?_ hjE (λz o hz hzE e=>?_) (by simp[Hp.cut])))
  .rw [Hp.cut_eq I.xL (show x≠L from i1.xL)];exact i1.ob
  .rw [Hp.cut_eq I.dL (show dx≠L from i1.dL)];exact i1.at_
  .have hzE:z≠env.locals:=λh=>by rw[h,hle]at e;cases e;exact hns _ rfl
   exact ⟨by rw[Hp.cut_eq hzE (show z≠L from hz)];exact e,hzE⟩
  .rw [Hp.cut_eq hjE i4];exact i3
  .have hzL:z≠L:=Hp.ne_of e hL;rw[Hp.cut_eq hzE hzL];exact keepz z o hz hzL (Hp.snt hzE e)
theorem Zmn {x dx:Addr} {av bv a0 b0 jv:AV}{ma:Loc}{bs js:List Int}{aj:Bool}{Q:QV} (G:Gnd (KW W0) B) (hh:A.handled=none) (hroom:A.depth + 3 < recursionLimit) (hu:A.units + 50 < cLine) (I:Ins hp env.locals x dx 242 ma) (ha:ma (S "a")=some a0) (hb:ma (S "b")=some b0) (na:NotIs B hp env.locals av a0) (nb:NotIs B hp env.locals bv b0) (hl:Src B hp env.locals bv bs)
  (hj:ma (S "isjunk")=some jv) (F:JV B hp env.locals jv js) (hau:ma (S "autojunk")=some (.bool aj)) (hno:∀ y,y ∉ Zkg->ma (S y)=none) (hn:bs.length < 200) (hjs:js.length<=61)
  (h:∀ hp',M9 hp' env.locals x dx av bv bs (jkB bs js)->(∀ z o,z≠dx->z≠env.locals->hp z=some o->hp' z=some o)->hp' env.locals=none->Q .none hp') :
  CL (model PW W0) A E B env (.ref 167) m [.ref x,av,bv] hp Q:=by
 refine CD.cl (Zff (bs:=[(S "b",bv),(S "a",av),(S "self",.ref x)]) (body:=Zbg (mS 2)) G (Zq8 W0) (by kernel_rfl) rfl (by (exact ul0 ‹_›)) (λs vs hv _=>?_) (by kernel_rfl) (by decide) (λL hL hLe=>?_))
 .refine hide λ_ Z=>?_;obtain ⟨v,u,z,rfl,h1,h2,h3⟩:=Zf7 hv;apply Z;clear Z;exact ⟨[(S "self",v),(S "a",u),(S "b",z)],BindsTo.of_eq rfl,rfl,.mk h3 (.mk h2 (.mk h1 .nil))⟩
 .have I':Ins (hp.set env.locals (.ns m)) L x dx 242 ma:=I.call hL;have hl':Src B (hp.set env.locals (.ns m)) L bv bs:=hl.call hL;have F':JV B (hp.set env.locals (.ns m)) L jv js:=F.keep λ_ _ hz e _ _ _ _=>⟨Hp.snt hz e,Hp.ne_of e hL⟩;have hdl:∀ ys,(hp.set env.locals (.ns m)) dx≠some (.list ys):=λys e=>by rw[I'.at_]at e;cases e
  have g0:locOf [(S "b",bv),(S "a",av),(S "self",AV.ref x)] (S "self")=some (.ref x):=rfl;have g1:locOf [(S "b",bv),(S "a",av),(S "self",AV.ref x)] (S "b")=some bv:=rfl;have g2:locOf [(S "b",bv),(S "a",av),(S "self",AV.ref x)] (S "a")=some av:=rfl;generalize hm0:locOf [(S "b",bv),(S "a",av),(S "self",AV.ref x)]=m0 at *;have hc1:ma (S "set_seq1")=none:=hno _ (by decide);have hc2:ma (S "set_seq2")=none:=hno _ (by decide);have hc3:ma (S "_SequenceMatcher__chain_b")=none:=hno _ (by decide);refine Zac (Zem ?_);refine Zac (Zcg (Zfc G (clsS W0) (f:=174) (by kernel_rfl) (by kernel_rfl) (by kernel_rfl) (Zaa g0 ⟨x,dx,_,rfl,I',hc1,Zab (Zaa g2 (Zae ?_))⟩)));refine Zoo (A:=A.deeper (callEnv Zjw L 167)) G (by show A.depth + 1 < _;(exact ul ‹_› (by decide))) I' ha (na.call hL) ?_;refine ⟨by simp,by simp,by simp,?_⟩;have I1:=I'.put (ma':=upd (upd (upd ma (S "a") av) (S "matching_blocks") .none) (S "opcodes") .none);refine Zac (Zcg (Zfc G (clsS W0) (f:=181) (by kernel_rfl) (by kernel_rfl) (by kernel_rfl) (Zaa g0 ⟨x,dx,_,rfl,I1,?_,Zab (Zaa g1 (Zae ?_))⟩)))
  ·(first | assumption | rfl)
  refine Zmo (A:=A.deeper (callEnv Zjw L 167)) G hh (by show A.depth + 1 + 2 < _;omega) (by show A.units + 3 + 40 < _;(exact F20 0x828534700483257040 0x11 rfl hu)) I1 (by first | assumption | rfl) ((nb.call hL).put hdl) (hl'.put hdl) (by first | assumption | rfl) (F'.keep λz o hz e _ _ n _=>⟨Hp.snt (λe'=>by rw[e',I'.at_]at e;cases e;exact n _ rfl) e,hz⟩) (by first | assumption | rfl) (by first | assumption | rfl) hn hjs λhp' d j p nj i1 i2 i3 i4 i5 i6=>?_;refine ⟨by simp,by simp,by simp,?_⟩;change j≠L at i4;have keepz:∀ z o,z≠dx->z≠L->(hp.set env.locals (.ns m)) z=some o->hp' z=some o:=λz o hz hzL e=>i5 z o hz hzL (Hp.snt hz e);have hle:hp' env.locals=some (.ns m):=keepz _ _ (Ne.symm I.dL) (Ne.symm hLe) (Hp.ss ..);have hjE:j≠env.locals:=λe=>by rw[e,hle]at i3;cases i3
  have i1':=Ins.mk (hp:=hp'.cut env.locals L) (L:=env.locals) (by rw[Hp.cut_eq I.xL (show x≠L from i1.xL)];exact i1.ob) (by rw[Hp.cut_eq I.dL (show dx≠L from i1.dL)];exact i1.at_) I.xL I.dL;refine Zal (Zes hle (h _ ⟨_,d,j,nj,i1',⟨by first | assumption | rfl,by first | assumption | rfl,by first | assumption | rfl,by first | assumption | rfl,by first | assumption | rfl,by first | assumption | rfl,by first | assumption | rfl,λy hy=>?_⟩,i2.move (λz o e hns hz=>⟨by rw[Hp.cut_eq (λh=>by rw[h,hle]at e;cases e;exact hns _ rfl) (show z≠L from hz)];exact e,λh=>by rw[h,hle]at e;cases e;exact hns _ rfl⟩),?_,hjE⟩ (λz o hz hzE e=>?_) (by simp[Hp.cut])))
  .refine hide λ_ Z=>?_;have hy':=hy;simp only[Zmv,List.mem_cons,List.not_mem_nil,or_false,not_or]at hy';obtain ⟨h1,h2,h3,h4,h5,h6,h7,h8,h9,h10⟩:=hy';apply Z;clear Z;simp only[ug,h1,h2,h3,h4,h5,h6,h7,h8,h9,h10,if_false];exact hno y (by simp only[Zkg,List.mem_cons,List.not_mem_nil,or_false,not_or];exact ⟨h8,h1,h2,h9,h5,h6,h7,h3,h4,h10⟩)
  .rw [Hp.cut_eq hjE i4];exact i3
  .have hzL:z≠L:=Hp.ne_of e hL;rw[Hp.cut_eq hzE hzL];exact keepz z o hz hzL (Hp.snt hzE e)
end
theorem M9.move {hp hp':Hp}{L L' x dx:Addr}{a b:AV}{bs:List Int}{fj:Int->Bool} (M:M9 hp L x dx a b bs fj) (h:∀ z o,hp z=some o->(∀ m,o≠.ns m)->z≠L->hp' z=some o/\z≠L'):M9 hp' L' x dx a b bs fj:=by obtain ⟨ma,d,j,nj,I,F,R,hj,hjL⟩:=M.ex;have a1:=h _ _ I.ob (by simp) I.xL;have a2:=h _ _ I.at_ (by simp) I.dL;have a3:=h _ _ hj (by simp) hjL;exact ⟨ma,d,j,nj,⟨a1.1,a2.1,a1.2,a2.2⟩,F,R.move h,a3.1,a3.2⟩
section
theorem Znc {av bv jv:AV}{bs js:List Int}{Q:QV} (G:Gnd (KW W0) B) (hh:A.handled=none) (hroom:A.depth + 6 < recursionLimit) (hu:A.units + 90 < cLine) (F:JV B hp env.locals jv js) (hav:av.isNone=false) (hl:Src B hp env.locals bv bs) (hn:bs.length < 200) (hjs:js.length<=61)
  (h:∀ hp' x dx,hp x=none->hp dx=none->M9 hp' env.locals x dx av bv bs (jkB bs js)->(∀ z o,z≠env.locals->hp z=some o->hp' z=some o)->hp' env.locals=none->Q (.ref x) hp') :
  CL (model PW W0) A E B env (.ref 242) m [jv,av,bv] hp Q:=by
 refine Zoq G (Zpc W0) (fI:=160) (by kernel_rfl) (by kernel_rfl) λx dx vs' hx hdx hxd hxL hdL=>?_;refine Zff (bs:=[(S "autojunk",.bool true),(S "b",bv),(S "a",av),(S "isjunk",jv),(S "self",.ref x)]) (body:=Zbg (mS 1)) G (Zrc W0) (by kernel_rfl) rfl (by show A.depth + 1 < _;(exact ul ‹_› (by decide))) (λs vs hv hk=>?_) (by kernel_rfl) (by decide) (λL hL hLe=>?_)
 .obtain ⟨v,u,z,y,rfl,h1,h2,h3,h4⟩:=Zhp hv;exact ⟨[(S "self",v),(S "isjunk",u),(S "a",z),(S "b",y),(S "autojunk",.bool true)],binds_K (G.X.keeps hk) rfl (by rfl) rfl rfl rfl,rfl,.mk VR_bool (.mk h4 (.mk h3 (.mk h2 (.mk h1 .nil))))⟩
 .have hle:Hp.Le hp ((hp.set dx (.atr λ_=>none)).set x (.obj (instObj 242 dx))):=((Hp.Le.refl hp).set hdx _).set hx _;have I:Ins ((hp.set dx (.atr λ_=>none)).set x (.obj (instObj 242 dx))) env.locals x dx 242 (λ_=>none):=⟨Hp.ss ..,Hp.snt (Ne.symm hxd) (Hp.ss ..),hxL,hdL⟩;have hl1:=hl.le hle;have F1:JV B ((hp.set dx (.atr λ_=>none)).set x (.obj (instObj 242 dx))) env.locals jv js:=F.keep λ_ _ hz e _ _ _ _=>⟨hle _ _ e,hz⟩;have hx0:hp x=none:=hx;have hbv:bv.isNone=false:=by cases hl <;> rfl
  have hpne:∀ z o,hp z=some o->z≠dx:=λz o e h=>by rw[h,hdx]at e;cases e
  generalize hq:(hp.set dx (.atr λ_=>none)).set x (.obj (instObj 242 dx))=hp1 at *;have I':Ins (hp1.set env.locals (.ns m)) L x dx 242 (λ_=>none):=I.call hL;have hl':Src B (hp1.set env.locals (.ns m)) L bv bs:=hl1.call hL;have F':JV B (hp1.set env.locals (.ns m)) L jv js:=F1.keep λ_ _ hz e _ _ _ _=>⟨Hp.snt hz e,Hp.ne_of e hL⟩;have hdl:∀ ys,(hp1.set env.locals (.ns m)) dx≠some (.list ys):=λys e=>by rw[I'.at_]at e;cases e
  have g0:locOf [(S "autojunk",AV.bool true),(S "b",bv),(S "a",av),(S "isjunk",jv),(S "self",AV.ref x)] (S "self")=some (.ref x):=rfl;have g1:locOf [(S "autojunk",AV.bool true),(S "b",bv),(S "a",av),(S "isjunk",jv),(S "self",AV.ref x)] (S "b")=some bv:=rfl;have g2:locOf [(S "autojunk",AV.bool true),(S "b",bv),(S "a",av),(S "isjunk",jv),(S "self",AV.ref x)] (S "a")=some av:=rfl;have g3:locOf [(S "autojunk",AV.bool true),(S "b",bv),(S "a",av),(S "isjunk",jv),(S "self",AV.ref x)] (S "isjunk")=some jv:=rfl;have g4:locOf [(S "autojunk",AV.bool true),(S "b",bv),(S "a",av),(S "isjunk",jv),(S "self",AV.ref x)] (S "autojunk")=some (.bool true):=rfl;generalize hm0:locOf [(S "autojunk",AV.bool true),(S "b",bv),(S "a",av),(S "isjunk",jv),(S "self",AV.ref x)]=m0 at *;refine Zac (Zem ?_);refine Zac (Zb2 (Zaa g3 (Zay G g0 I' ?_)));have I1:=I'.put (ma':=upd (λ_=>none) (S "isjunk") jv);refine Zac (Zba (Zch (Zay G g0 I1 ?_)));rw[Hp.set_set];have I2:=I'.put (ma':=upd (upd (λ_=>none) (S "isjunk") jv) (S "a") .none);refine Zay G g0 I2 ?_;rw[Hp.set_set];have I3:=I'.put (ma':=upd (upd (upd (λ_=>none) (S "isjunk") jv) (S "a") .none) (S "b") .none);refine Zac (Zb2 (Zaa g4 (Zay G g0 I3 ?_)));rw[Hp.set_set];have I4:=I'.put (ma':=upd (upd (upd (upd (λ_=>none) (S "isjunk") jv) (S "a") .none) (S "b") .none) (S "autojunk") (.bool true));refine Zac (Zcg (Zfc G (clsS W0) (f:=167) (by kernel_rfl) (by kernel_rfl) (by kernel_rfl) (Zaa g0 ⟨x,dx,_,rfl,I4,?_,Zab (Zaa g2 (Zab (Zaa g1 (Zae ?_))))⟩)))
  ·(first | assumption | rfl)
  refine Zmn (A:=(A.under (.builtin "type.__call__" ⟨.ref 242 :: vs',[]⟩)).deeper (callEnv Zm2 L 160)) G hh (by show A.depth + 1 + 1 + 3 < _;(exact Nat.lt_of_succ_lt ‹_›)) (by show (A.under (.builtin "type.__call__" ⟨.ref 242 :: vs',[]⟩)).units + 3 + 50 < _;rw[show (A.under (.builtin "type.__call__" ⟨.ref 242 :: vs',[]⟩)).units=A.units + 1 from rfl];(exact F20 0x83253467000485a57040 0x11 rfl hu)) I4 (by first | assumption | rfl) (by first | assumption | rfl) (.inl ⟨rfl,hav⟩) (.inl ⟨rfl,hbv⟩) (hl'.put hdl) (by first | assumption | rfl) (F'.keep λz o hz e _ _ n _=>⟨Hp.snt (λe'=>by rw[e',I'.at_]at e;cases e;exact n _ rfl) e,hz⟩) (by first | assumption | rfl) (λy hy=>?_) hn hjs λhp' MM i6 i7=>?_
  .refine hide λ_ Z=>?_;have hy':=hy;simp only[Zkg,List.mem_cons,List.not_mem_nil,or_false,not_or]at hy';obtain ⟨h1,h2,h3,h4,h5,h6,h7,h8,h9,h10⟩:=hy';apply Z;clear Z;simp only[ug,h1,h2,h3,h4,if_false]
  refine ⟨by simp,by simp,by simp,?_⟩;have keepz:∀ z o,z≠dx->z≠L->(hp1.set env.locals (.ns m)) z=some o->hp' z=some o:=λz o hz hzL e=>i6 z o hz hzL (Hp.snt hz e);have hlE:hp' env.locals=some (.ns m):=keepz _ _ (Ne.symm I.dL) (Ne.symm hLe) (Hp.ss ..);refine Zal (Zes hlE ⟨rfl,h _ x dx hx0 hdx (MM.move λz o e hns hz=>?_) (λz o hzE e=>?_) (by simp[Hp.cut])⟩)
  .have hzE:z≠env.locals:=λh=>by rw[h,hlE]at e;cases e;exact hns _ rfl
   exact ⟨by rw[Hp.cut_eq hzE (show z≠L from hz)];exact e,hzE⟩
  .have e1:=hle _ _ e;have hzL:z≠L:=Hp.ne_of e1 hL;rw[Hp.cut_eq hzE hzL];exact keepz z o (hpne z o e) hzL (Hp.snt hzE e1)
end
section
variable {K:Frag}
theorem Zj2 {it l:Addr}{items:Array Value} (hne:l≠it):∀ (n i:Nat) (s:Shared) (Q:List Value->Shared->Prop),s.heap.IsListIter it l i->s.heap.IsList l items->i + n<=items.size ->
  (∀ h',h'.IsListIter it l (i + n:Nat)->Heap.SameBut it s.heap h'->Q ((items.toList.drop i).take n) { s with heap:=h' })->wpAny (model PW W0) A (draw (.ref it) n) Q E s:=by
 intro r_
 induction r_ with
 | zero=>
  intro i s Q hit _ _ hQ;show wpAny _ _ (pure []) Q E s;exact wP (by simpa using hQ s.heap hit (Heap.SameBut.refl ..))
 | succ n ih=>
  intro i s Q hit ht hle hQ;have hlt:i < items.size:=by (exact ul0 ‹_›)
  show wpAny _ _ (pyNext (.ref it) >>= _) Q E s;refine wB (wpAny_pyNext_list_item hit ht (x:=items[i]) (by simp[hlt]) λhY hitY hsY=>?_);refine wB (wpAny_holding (ih (i + 1) _ _ hitY (let ⟨o,ho,r⟩:=ht;⟨o,hsY.extBut _ _ hne ho,r⟩) (by (exact F30 0x986700596807050 0x11 rfl hle)) λh₂ hit₂ hs₂=>wP ?_));have hd:items.toList.drop i=items[i] :: items.toList.drop (i + 1):=by simp[List.drop_eq_getElem_cons,hlt]
  have:=hQ h₂ (by rw[show i + (n + 1)=i + 1 + n by (exact F20 0x86700680706 0x11 rfl)];exact hit₂) (hsY.trans hs₂);rw[hd,List.take_succ_cons]at this;exact this
theorem Zeo {elts:List Expr} {k pos}{a:Addr}{xs:List AV}{ts:List (Value->Sem Unit)}{Q:Loc->Hp->Prop} (hh:A.handled=none) (hts:(assignEach elts env).map (·.2)=ts) (hn:(assignEach elts env).length=xs.length) (hstar:(assignEach elts env).findIdx? (·.1)=none) (hl:Lst B hp env.locals a xs)
  (h:ASGS (model PW W0) A E B env ts xs m hp Q):ASG (model PW W0) A E B env (.Tuple elts k pos) (.ref a) m hp Q:=λs v r hv=>by
 simp only[VR]at hv;subst hv;obtain ⟨us,hlst,hus⟩:=r.lst hl;have hlt:a≠s.heap.objs.size:=by obtain ⟨o,ho,_⟩:=hlst;exact Nat.ne_of_lt (Heap.lt_size ho)
 have e1:us.size=xs.length:=by rw[<-Array.length_toList];exact hus.length
 rw[assign_Tuple];refine wB (wpAny_standAt ?_);unfold unpack;rw[hstar,hn,<-e1];refine wB (wpAny_holding ?_);unfold unpackItems;refine wB ?_;unfold notIterableAtAll;refine wB (wpAny_specialOf (let ⟨o,ho,hc,_⟩:=hlst;⟨o,ho,hc⟩) slot_list_iter.lookup ?_);refine wP ?_;simp only[Bool.false_eq_true,if_false];refine wB (wpAny_holding (wpAny_pyIter_list hlst ?_));have hl1:(s.heap.push { cls:=.type "list_iterator",data:=.fields #[.ref a,.int 0 0] }).IsList a us:=let ⟨o,ho,r⟩:=hlst;⟨o,Heap.get?_push_of_some _ ho,r⟩;refine wB (wpAny_holding (Zj2 hlt us.size 0 { s with heap:=s.heap.push { cls:=.type "list_iterator",data:=.fields #[.ref a,.int 0 0] } } _ ⟨_,Heap.get?_push_size _ rfl,rfl,rfl⟩ hl1 (by lia) λhY hitY hsY=>?_));have hall:List.take us.size (List.drop 0 us.toList)=us.toList:=by rw[List.drop_zero];exact List.take_of_length_le (by simp)
 rw[hall,if_neg (by simp)];have hl2:hY.IsList a us:=let ⟨o,ho,r⟩:=hl1;⟨o,hsY.extBut _ _ hlt ho,r⟩;rw[Nat.zero_add]at hitY;refine wB (wpAny_holding (wpAny_pyNext_list_end (s:={ s with heap:=hY }) hh hitY hl2 (by simp) λh₂ he₂=>?_));simp only[Option.isSome_none,Bool.false_eq_true,if_false];refine wP ?_;obtain ⟨r',le⟩:=r.ext (λb o hb e=>he₂ b o hb (hsY.extBut b o hb (Heap.get?_push_of_some _ e))) s.toks;rw[hts];exact useA (h _ _ r' (hus.mono le)) λ_ s₂ m₂ hp₂ r₂ le₂ q=>mkA r₂ (le.trans le₂) q
end
section
variable {K:Frag}
end
section
variable {K:Frag}
noncomputable def tupT (x:Tri):AV:=.tup [.int x.1,.int x.2.1,.int x.2.2]
theorem Zix {h:Heap}{x:Tri}{v:Value} (hv:VR h (tupT x) v):∃ a o n t1 t2 t3,v = .ref a/\h.get? a=some o/\o.cls = .type "tuple" /\ o.data = .seq #[.int x.1 t1,.int x.2.1 t2,.int x.2.2 t3] n:=by unfold tupT at hv;simp only[VR,VRs]at hv;obtain ⟨a,vs,rfl,⟨o,ho,hc,n,hd⟩,v1,r1,e1,⟨t1,rfl⟩,v2,r2,e2,⟨t2,rfl⟩,v3,r3,e3,⟨t3,rfl⟩,e4⟩:=hv;subst e4 e3 e2;have:vs = #[Value.int x.1 t1,.int x.2.1 t2,.int x.2.2 t3]:=Array.toList_inj.mp e1;subst this;exact ⟨a,o,_,t1,t2,t3,rfl,ho,hc,hd⟩
end
section
variable {K:Frag}
theorem Zfe {pg:Program}{wd:World}{p q:Int}{t u:Tok}{s:Shared}{Q:ET} (h:Q (.bool (decide (p < q))) s):wpAny (model pg wd) A (richCompare .Lt (.int p t) (.int q u)) Q E s:=by have:=@CmpOf.ints_lt pg wd A (λi v=>(i=0/\v = .int p t)\/(i=1/\v = .int q u)) (λi=>if i=0 then p else q) (λi v hv=>by rcases hv with ⟨rfl,rfl⟩ | ⟨rfl,rfl⟩ <;> exact ⟨_,rfl⟩);exact this 0 1 _ _ s Q E (.inl ⟨rfl,rfl⟩) (.inr ⟨rfl,rfl⟩) h
noncomputable def Tup3 (h:Heap) (a:Addr) (x:Tri):Prop:=∃ o n t1 t2 t3,h.get? a=some o/\o.cls = .type "tuple" /\ o.data = .seq #[.int x.1 t1,.int x.2.1 t2,.int x.2.2 t3] n
theorem Ziz (a b:Addr) (x y:Tri):Meets (Builtin.«tuple.__lt__» ⟨[.ref a,.ref b],[]⟩) (λ_ R s=>Tup3 s.heap a x/\Tup3 s.heap b y/\R (.ok (.ret (.bool (lexB x y)))) s):=
 .of_wp λpg wd A R s ⟨⟨oa,na,t1,t2,t3,ha,hca,hda⟩,⟨ob,nb,u1,u2,u3,hb,hcb,hdb⟩,h⟩=>by
  show wpAny _ _ (isInstance (.ref b) (.type "tuple") >>= _) _ _ s;refine wB (wpAny_isInstance ⟨ob,hb,hcb⟩ isSubtype_tuple_tuple ?_);simp only[Bool.not_true,Bool.false_eq_true,if_false];refine wB (wpAny_tupleItemsOf ha hda ?_);refine wB (wpAny_tupleItemsOf hb hdb ?_);simp only[List.zip_cons_cons,List.zip_nil_right,List.forIn_cons,List.forIn_nil];unfold lexB at h;refine wB (wB (wB (wpAny_eqBool_int ?_)));by_cases h1:x.1=y.1
  .rw [if_pos h1]at h;rw[show (x.1 == y.1)=true from beq_iff_eq.mpr h1];simp only[Bool.not_true,Bool.false_eq_true,if_false];refine wP (wB (wB (wpAny_eqBool_int ?_)));by_cases h2:x.2.1=y.2.1
   .rw [if_pos h2]at h;rw[show (x.2.1 == y.2.1)=true from beq_iff_eq.mpr h2];simp only[Bool.not_true,Bool.false_eq_true,if_false];refine wP (wB (wB (wpAny_eqBool_int ?_)));by_cases h3:x.2.2=y.2.2
    .rw [show (x.2.2 == y.2.2)=true from beq_iff_eq.mpr h3];simp only[Bool.not_true,Bool.false_eq_true,if_false];refine wP (wP ?_);rw[show decide (x.2.2 < y.2.2)=false by simp only[decide_eq_false_iff_not];(exact F02 0x87728790 0x110 rfl h3)]at h;exact wP ⟨_,rfl,h⟩
    .rw [show (x.2.2 == y.2.2)=false from beq_eq_false_iff_ne.mpr h3];simp only[Bool.not_false,if_true];exact wB (wpAny_rule (wB (Zfe (wB (wP (wP (wP (wP ⟨_,rfl,h⟩))))))))
   .rw [if_neg h2]at h;rw[show (x.2.1 == y.2.1)=false from beq_eq_false_iff_ne.mpr h2];simp only[Bool.not_false,if_true];exact wB (wpAny_rule (wB (Zfe (wB (wP (wP (wP (wP ⟨_,rfl,h⟩))))))))
  .rw [if_neg h1]at h;rw[show (x.1 == y.1)=false from beq_eq_false_iff_ne.mpr h1];simp only[Bool.not_false,if_true];exact wB (wpAny_rule (wB (Zfe (wB (wP (wP (wP (wP ⟨_,rfl,h⟩))))))))
theorem Zgl {a b:Addr}{x y:Tri}{s:Shared}{Q:ET} (hu:A.units < cLine) (ha:Tup3 s.heap a x) (hb:Tup3 s.heap b y) (h:Q (.bool (lexB x y)) s):wpAny (model PW W0) A (richCompare .Lt (.ref a) (.ref b)) Q E s:=by obtain ⟨oa,na,t1,t2,t3,h1,h2,h3⟩:=id ha;obtain ⟨ob,nb,u1,u2,u3,k1,k2,k3⟩:=id hb;exact richCompare_meets_room ⟨oa,h1,h2⟩ ⟨ob,k1,k2⟩ F.slot_tuple_lt F.entry_tuple_lt (F.args_tuple_lt_2 _ _) (Ziz a b x y) ⟨ha,hb,(λq=>by cases q),h⟩ hu
end
section
variable {K:Frag}
theorem Zjc {R:Result->Shared->Prop}{I S:Addr}{fp wr:List Addr}{P:Nat->Value->Prop}{St:Nat->Heap->Prop}{lt:Bool} (W:Walks PW W0 A.in1 I fp wr 2 P St) (hSf:S ∉ fp) {s:Shared}{c:Nat} (hst:St 0 s.heap)
  (hS:s.heap.get? S=some { cls:=.type "list",dict:=none,data:=.seq #[] c,slots:=#[] })
  (hcmp:∀ va vb (s':Shared) (Q E:ET),P 0 va->P 1 vb->(∀ b o,b ∉ wr->b≠S->s.heap.get? b=some o->s'.heap.get? b=some o)->Q (.bool lt) s'->wpAny (model PW W0) A.in1 (richCompare .Lt vb va) Q E s')
  (hR:∀ v h' tk,(if lt then P 1 v else P 0 v)->(∀ b o,b ∉ wr->b≠S->s.heap.get? b=some o->h'.get? b=some o)->R (.ok (.ret v)) { s with heap:=h',toks:=tk }) :
  codeAny (model PW W0) A (.builtin "min.loop" ⟨[.ref I,.none,.ref S],[]⟩) R s:=by
 have hSw:S ∉ wr:=λh=>hSf (W.sub _ h);have hname:(toString "min" ++ toString ".loop" : String) = "min.loop" := by decide
 have last:∀ (s₂:Shared) (vb:Value) (c:Nat),St 2 s₂.heap->(if lt then P 1 vb else P 0 vb)->s₂.heap.get? S=some { cls:=.type "list",dict:=none,data:=.seq #[vb,vb] c,slots:=#[] } ->
   (∀ b o,b ∉ wr->b≠S->s.heap.get? b=some o->s₂.heap.get? b=some o)->(∃ h' tk,s₂={ s with heap:=h',toks:=tk })->codeAny (model PW W0) A (.builtin "min.loop" ⟨[.ref I,.none,.ref S],[]⟩) R s₂:=λs₂ vb c hst hP hS hk ⟨h0,tk0,e⟩=>by
  refine codeAny_builtin F.entry_min_loop ?_;rw[Around.under_plainId F.plain_min_loop _];show wpAny _ A.in1 (seqItems? (.ref S) >>= _) _ _ s₂;refine wB (wpAny_seqItems hS rfl ?_);show wpAny _ A.in1 (tryCatch (pyNext (.ref I)) _ >>= _) _ _ s₂;refine wB (wpAny_tryCatch (W.done s₂ _ _ hst λh' tk hk'=>?_));have hS':=hk' S _ hSw hS;show wpAny _ A.in1 (updateSeq S (λ_=>#[]) >>= _) _ _ _;refine wB ?_;refine wpAny_updateSeq hS' rfl (wB (wpAny_letGo (wP ?_)));subst e;exact hR vb _ tk hP λb o hbw hbS e=>(Heap.get?_update_other _ _ (Ne.symm hbS)).trans (hk' b o hbw (hk b o hbw hbS e))
 refine codeAny_builtin F.entry_min_loop ?_;rw[Around.under_plainId F.plain_min_loop _];show wpAny _ A.in1 (seqItems? (.ref S) >>= _) _ _ s;refine wB (wpAny_seqItems hS rfl ?_);show wpAny _ A.in1 (tryCatch (pyNext (.ref I)) _ >>= _) _ _ s;refine wB (wpAny_tryCatch (W.item 0 s _ _ (by decide) hst λv h' tk hP hst' hk'=>?_));have hS':=hk' S _ hSw hS;show wpAny _ A.in1 (updateSeq S (λ_=>#[v,v]) >>= _) _ _ _;refine wB ?_;refine wpAny_updateSeq hS' rfl ?_;rw[hname];have hS1:=Heap.get?_update_self (Obj.mapSeq λ_=>#[v,v]) hS' rfl;have hst1:St 1 (h'.update S (Obj.mapSeq λ_=>#[v,v])):=W.frame _ _ _ hst' λb hbf o e=>(Heap.get?_update_other _ _ (λh:S=b=>hSf (by rw[h];exact hbf))).trans e;have hk1:∀ b o,b ∉ wr->b≠S->s.heap.get? b=some o->(h'.update S (Obj.mapSeq λ_=>#[v,v])).get? b=some o:=λb o hbw hbS e=>(Heap.get?_update_other _ _ (Ne.symm hbS)).trans (hk' b o hbw e);refine wP ⟨plainId_quiet F.plain_min_loop _,?_⟩;refine codeAny_builtin F.entry_min_loop ?_;rw[Around.under_plainId F.plain_min_loop _];show wpAny _ A.in1 (seqItems? (.ref S) >>= _) _ _ _;refine wB (wpAny_seqItems hS1 rfl ?_);show wpAny _ A.in1 (tryCatch (pyNext (.ref I)) _ >>= _) _ _ _;refine wB (wpAny_tryCatch (W.item 1 { s with heap:=h'.update S (Obj.mapSeq λ_=>#[v,v]),toks:=tk } _ _ (by decide) hst1 λv2 h2 tk2 hP2 hst2 hk2=>?_));have hS2:=hk2 S _ hSw hS1;have hk3:∀ b o,b ∉ wr->b≠S->s.heap.get? b=some o->h2.get? b=some o:=λb o hbw hbS e=>hk2 b o hbw (hk1 b o hbw hbS e);show wpAny _ A.in1 (tryCatch (holding [v2,v2] (richCompare .Lt v2 v >>= _)) _ >>= _) _ _ _;refine wB (wpAny_tryCatch (wpAny_holding (wB (hcmp v v2 _ _ _ hP hP2 hk3 ?_))));refine wB (wpAny_holding (wpAny_truthy_bool ?_));refine wB (wpAny_letGo (wP ?_));cases hb:lt with
 | true=>
  simp only[if_true];refine wB ?_;refine wpAny_updateSeq hS2 rfl (wB (wpAny_letGo ?_));rw[hname];refine wP ⟨plainId_quiet F.plain_min_loop _,last _ v2 _ (W.frame _ _ _ hst2 λb hbf o e=>(Heap.get?_update_other _ _ (λh:S=b=>hSf (by rw[h];exact hbf))).trans e) (by rw[hb];exact hP2) (Heap.get?_update_self _ hS2 rfl) (λb o hbw hbS e=>(Heap.get?_update_other _ _ (Ne.symm hbS)).trans (hk3 b o hbw hbS e)) ⟨_,_,rfl⟩⟩
 | false=>
  simp only[Bool.false_eq_true,if_false];refine wB (wpAny_letGo ?_);rw[hname];refine wP ⟨plainId_quiet F.plain_min_loop _,last _ v _ hst2 (by rw[hb];exact hP) hS2 hk3 ⟨_,_,rfl⟩⟩
theorem Tup3.keeps {h h':Heap}{a:Addr}{x:Tri} (t:Tup3 h a x) (k:∀ o,h.get? a=some o->h'.get? a=some o):Tup3 h' a x:=by obtain ⟨o,n,t1,t2,t3,ha,r⟩:=t;exact ⟨o,n,t1,t2,t3,k _ ha,r⟩
theorem Zfq {a b:Addr}{x y:Tri}{s:Shared}{Q:ET} (hh:A.handled=none) (hu:A.units + 20 < cLine) (ha:Tup3 s.heap a x) (hb:Tup3 s.heap b y)
  (h:∀ h' tk,(∀ c o,s.heap.get? c=some o->h'.get? c=some o)->Q (if lexB y x then .ref b else .ref a) { s with heap:=h',toks:=tk }):wpAny (model PW W0) A (call (.builtin "min") [.ref a,.ref b]) Q E s:=by
 have hname:(toString "min" ++ toString ".loop" : String) = "min.loop" := by decide
 have hT:(s.heap.push { cls:=.type "tuple",data:=.seq #[.ref a,.ref b] }).IsTuple s.heap.objs.size #[.ref a,.ref b]:=⟨_,Heap.get?_push_size _ rfl,rfl,0,rfl⟩;refine call_function_tree F.kind_min F.plain_min F.entry_min (F.args_min2 _ _) ?_;show wpAny _ A.in1 (Builtin.Builtins.bindParams "min" ["key", "default"] 0 ⟨[],[]⟩ >>= _) _ _ s;refine wB (wpAny_of_eq (show Builtin.Builtins.bindParams "min" ["key", "default"] 0 ⟨[],[]⟩=pure [none,none] from rfl) ?_);show wpAny _ A.in1 (newTuple [.ref a,.ref b] >>= _) _ _ s;refine wB (wpAny_newObj_type ?_);refine wB (wpAny_pyIter_tuple hT ?_);refine wB (wpAny_newObj_type ?_);rw[hname];have z1:(s.heap.push { cls:=.type "tuple",data:=.seq #[.ref a,.ref b] }).objs.size=s.heap.objs.size + 1:=Heap.size_push ..;have z2:((s.heap.push { cls:=.type "tuple",data:=.seq #[.ref a,.ref b] }).push { cls:=.type "tuple_iterator",data:=.fields #[.ref s.heap.objs.size,.int 0 0] }).objs.size=s.heap.objs.size + 2:=by rw[Heap.size_push,z1]
 have no1:∀ {c o},s.heap.get? c=some o->c ∈ [(s.heap.push { cls:=.type "tuple",data:=.seq #[.ref a,.ref b] }).objs.size]->False:=λe hm=>by rw[z1]at hm;exact absurd (Heap.lt_size e) (Nat.not_lt.mpr (by rw[List.mem_singleton.mp hm];exact Nat.le_add_right _ _))
 have no2:∀ {c o},s.heap.get? c=some o->c=((s.heap.push { cls:=.type "tuple",data:=.seq #[.ref a,.ref b] }).push { cls:=.type "tuple_iterator",data:=.fields #[.ref s.heap.objs.size,.int 0 0] }).objs.size->False:=λe hm=>by rw[z2]at hm;exact absurd (Heap.lt_size e) (Nat.not_lt.mpr (by rw[hm];exact Nat.le_add_right _ _))
 refine wP ⟨plainId_quiet F.plain_min_loop _,?_⟩;refine Zjc (lt:=lexB y x) (Walks.tuple (A:=A.in1) hh _ s.heap.objs.size (by rw[z1];exact Nat.ne_of_lt (Nat.lt_succ_self _)) #[.ref a,.ref b]) (λhm=>?_) ⟨⟨_,Heap.get?_push_of_some _ (Heap.get?_push_size _ rfl),rfl,rfl⟩,(hT.push _).push _⟩ (Heap.get?_push_size _ rfl) (λva vb s' Q' E' p0 p1 hk hq=>?_) (λv h' tk hv hk=>?_)
 .have e0:((s.heap.push { cls:=.type "tuple",data:=.seq #[.ref a,.ref b] }).push { cls:=.type "tuple_iterator",data:=.fields #[.ref s.heap.objs.size,.int 0 0] }).objs.size ∈ [(s.heap.push { cls:=.type "tuple",data:=.seq #[.ref a,.ref b] }).objs.size,s.heap.objs.size]:=hm;rw[z2,z1]at e0;simp at e0
 .simp at p0 p1;subst p0;subst p1;have old:∀ c o,s.heap.get? c=some o->s'.heap.get? c=some o:=λc o e=>by
   refine hk c o (λhm=>?_) (λe2=>?_) (Heap.get?_push_of_some _ (Heap.get?_push_of_some _ (Heap.get?_push_of_some _ e)))
   .exact no1 e hm
   .exact no2 e e2
  exact Zgl (by show A.units + _ < _;(exact ul ‹_› (by decide))) (hb.keeps λo e=>old _ o e) (ha.keeps λo e=>old _ o e) hq
 .have old:∀ c o,s.heap.get? c=some o->h'.get? c=some o:=λc o e=>by
   refine hk c o (λhm=>?_) (λe2=>?_) (Heap.get?_push_of_some _ (Heap.get?_push_of_some _ (Heap.get?_push_of_some _ e)))
   .exact no1 e hm
   .exact no2 e e2
  have:=h h' tk old;cases hl:lexB y x with
  | true=>rw[hl]at hv this;simp at hv;rw[<-hv];exact this
  | false=>rw[hl]at hv this;simp at hv;rw[<-hv];exact this
theorem Zop {x y:Tri}{Q:QV} (hh:A.handled=none) (hu:A.units + 20 < cLine) (h:Q (tupT (if lexB y x then y else x)) hp):CL (model PW W0) A E B env (.builtin "min") m [tupT x,tupT y] hp Q:=λs vs r hv=>by
 obtain ⟨v,u,rfl,h1,h2⟩:=Zbs hv;obtain ⟨a,o,n,t1,t2,t3,rfl,ho⟩:=Zix h1;obtain ⟨b,o',n',u1,u2,u3,rfl,ho'⟩:=Zix h2;refine Zfq hh hu ⟨o,n,t1,t2,t3,ho⟩ ⟨o',n',u1,u2,u3,ho'⟩ λh' tk k=>?_;obtain ⟨r',le⟩:=r.grown k tk;refine mkV r' le (?_) h;split
 .exact h2.mono le
 .exact h1.mono le
end
section
variable {K:Frag}
theorem Zda {s:Shared}{value st:Expr}{p pos:Pos}{T id:String}{Q:ET}
  (hl:typeLookup (.type T) "__getitem__" = pure (some (.builtin id)))
  (h:wpAny (model PW W0) A (eval value env) (λo sY=>wpAny (model PW W0) A (eval (.Slice none none (some st) p) env) (λi s₂=>s₂.TypeIs o T/\wpAny (model PW W0) A (getItem o i) Q E s₂) E sY) E s) :
  wpAny (model PW W0) A (eval (.Subscript value (.Slice none none (some st) p) pos) env) Q E s:=by
 rw[eval_Subscript];refine wB (wpAny_mono h (λo sY hY=>wB (wpAny_holding (wpAny_mono hY (λi s₂ h₂=>wB (wpAny_standAt ?_)) λ_ _ x=>x))) λ_ _ x=>x);have fin:wpAny (model PW W0) A (operate [o,i] (getItem o i)) (λr s₃=>wpAny (model PW W0) A (letTemporaryGo value o r >>= λ_=>pure r) Q E s₃) E s₂:=
  wpAny_operating (wpAny_mono h₂.2 (λr s₃ h₃=>wB (wpAny_letTemporaryGo (wP h₃))) λ_ _ x=>x)
 refine wB ?_;rw[getitemInPython_of_ne h₂.1.not_modules];refine wB (wpAny_specialOf h₂.1 hl ?_);exact wP (wB fin)
theorem Zen {value st:Expr} {p pos}{Q:QV} (h:EV (model PW W0) A E B env value m hp (Zd2 PW W0 A E B env m st Q)) :
  EV (model PW W0) A E B env (.Subscript value (.Slice none none (some st) p) pos) m hp Q:=λs r=>by
 refine Zda (T := "list") list_getitem_lookup (h.use r λu sY o hpY rY leY hu hY=>wpAny_Slice ?_);rw[evalPart_none];refine wP (wP ?_);refine hY.use rY λvc s₂ c hp₂ r₂ le₂ hc h₂=>?_;obtain ⟨a,xs,rfl,rfl,hls,hsz,q⟩:=h₂;simp only[VR]at hu;subst hu;simp only[VR]at hc;obtain ⟨t,rfl⟩:=hc;obtain ⟨vs,hlst,hvs⟩:=r₂.lst hls;have e:vs.size=xs.length:=by rw[<-Array.length_toList];exact hvs.length
 have hz:=sizeLine_eq;refine ⟨(hlst.push _).typeIs,wpAny_getItem_list_slice (hlst.push _) (Heap.IsSliceOf.new ..) .none .none (.int ..) (by decide) ?_ (by lia)⟩;have rj:=r₂.push { cls:=.type "slice",data:=.fields #[.none,.none,.int (-1) t] };have lej:ImmLe s₂.heap (s₂.heap.push { cls:=.type "slice",data:=.fields #[.none,.none,.int (-1) t] }):=ImmLe.keep λb o'' e=>Heap.get?_push_of_some _ e;rw[krv_pick]
 have n:=Rel.newAt rj { cls:=.type "list",data:=.seq vs.toList.reverse.toArray } (.list xs.reverse) ⟨_,0,IsL.new _ _,by
  have:=hvs.mono (lej.trans (ImmLe.keep λb o'' e=>Heap.get?_push_of_some { cls:=.type "list",data:=.seq vs.toList.reverse.toArray } e))
  exact this.reverse⟩
 exact mkV (av:=.ref _) n.1 ((leY.trans le₂).trans (lej.trans n.2.2.2)) VR_ref (q _ n.2.1 n.2.2.1)
theorem Zev:isSubtype (.type "int") (.type "list")=pure false:=by rw[isSubtype_type];kernel_rfl
theorem Zd8:isSubtype (.type "list") (.type "list")=pure true:=by rw[isSubtype_type];kernel_rfl
theorem Zei:typeOf (.type "list")=pure (.type "type"):=by kernel_rfl
theorem Zou {k:Int}{Q:QV} (h:Q (.bool false) hp):CL (model PW W0) A E B env (.builtin "isinstance") m [.int k,.ty "list"] hp Q:=λs vs r hv=>by obtain ⟨v,u,rfl,h1,h2⟩:=Zbs hv;simp only[VR]at h1 h2;obtain ⟨t,rfl⟩:=h1;subst h2;exact call_isinstance (isinstance_false_int (by decide +kernel) Zei Zev) (mkV (r.toks _) (.refl _) VR_bool h)
theorem Zot {l:Addr}{xs:List AV}{Q:QV} (hl:Lst B hp env.locals l xs) (h:Q (.bool true) hp):CL (model PW W0) A E B env (.builtin "isinstance") m [.ref l,.ty "list"] hp Q:=λs vs r hv=>by obtain ⟨v,u,rfl,h1,h2⟩:=Zbs hv;simp only[VR]at h1 h2;subst h1;subst h2;obtain ⟨ys,hls,_⟩:=r.lst hl;exact call_isinstance (isinstance_true Zei Zd8) ⟨hls.typeIs,mkV r (.refl _) VR_bool h⟩
end
theorem Zo9 (W0:World):nsIn (KW W0) mainGlobals (S "isinstance")=some none:=by kernel_rfl
theorem Zn8:bootBuiltins (PySem.Str.ofString "isinstance")=some (.builtin "isinstance"):=by boot_fast
noncomputable def dS (i:Nat):Stmt:=(Zbg (topS PW 8)).getD i (.Pass ⟨0,0,0,0⟩)
noncomputable def Zdi:List String:=["i", "j", "size", "best"]
section
theorem Zj1 {L oA:Addr}{av:List AV}{alo ahi:Int}{KK:QX} (G:Gnd (KW W0) B) (hh:A.handled=none)
  (h1:m (S "one")=some (.ref oA)) (h2:m (S "alo")=some (.int alo)) (h3:m (S "ahi")=some (.int ahi)) (l1:Lst B hp L oA av) (items:∀ (i:Nat) y,av[i]?=some y->(∃ k,y = .int k)\/∃ l xs,y = .ref l/\Lst B hp L l xs)
  (ha0 : 0<=alo) (haa:alo < 2 ^ 61) (ha1:ahi < 2 ^ 61) (haz : -(2 ^ 61)<=ahi) (hlen:av.length<=4000)
  (k1:∀ m' hp',Hp.Le hp hp'->Ints av alo ahi->(∀ y,y ∉ Zdi->m' (S y)=m (S y))->KK .next m' hp')
  (k2:∀ m' hp',Hp.Le hp hp'->(∃ i,alo<=i/\i < ahi/\(av.length:Int)<=i/\Ints av alo i)->KK (.ret (.str (S "IndexError"))) m' hp')
  (k3:∀ m' hp',Hp.Le hp hp'->(∃ i l,alo<=i/\i < ahi/\av[i.toNat]?=some (.ref l)/\Ints av alo i)->KK (.ret (.str (S "TypeError"))) m' hp') :
  EX (model PW W0) A (λ_ _=>False) B (callEnv Ze0 L 260) (dS 0) m hp KK:=by
 refine Zd3 hh (Zb9 (Zat G (Zb5 W0) Zbr (by decide) (λ_=>Zc7) ⟨rfl,Zab (Zaa h2 (Zab (Zaa h3 (Zae (Zc1 λr ob hr hrL ro=>?_)))))⟩));refine ⟨r,ob,alo,ahi,rfl,Hp.ss ..,hrL,ro,by lia,by lia,by lia,by lia,λit hit hitL=>?_⟩;have hle1:Hp.Le hp (hp.set r (.obj ob)):=(Hp.Le.refl _).set hr _;have hit':hp it=none:=hle1.none hit;refine ⟨λn m₂ hp₂=>Ints av alo (alo + n)/\(∀ y,y ∉ Zdi->m₂ (S y)=m (S y))/\Hp.Le hp hp₂,λob'=>?_,λn m₂ hp₂ ob' x=>?_,λn m₂ hp₂ ob' hn x hob=>?_,λm₂ hp₂ x=>?_⟩
 .exact ⟨λk k1 k2=>absurd k2 (by (exact F02 0x4370872043708708780 0x11 rfl k1 k2)),λ_ _=>rfl,hle1.set hit' _⟩
 .exact ⟨x.1,x.2.1,x.2.2.set hit' _⟩
 .obtain ⟨xI,x0,x1⟩:=x;refine Zak ?_;have f1:(upd m₂ (S "i") (.int (alo + n))) (S "one")=some (.ref oA):=by rw[ug,if_neg (by decide),x0 _ (by decide)];exact h1
  have hng:alo + n < ahi:=by (exact F12 0x88370778407813a 0x1011110 rfl hn)
  have l1':=l1.le x1;refine Zb0 λKB hKB=>?_;refine Zac (Zcf (Zaf (Zaa (by first | assumption | rfl) (Zao (Zat G (Zbc W0) Zaz (by decide) (λ_=>Zbi) ⟨rfl,Zab (Zaa f1 (Zae (Zbe l1' (sz' (by (exact Nat.le_trans ‹_› (by decide)))) (Zkl (Zaj ?_)))))⟩)))));by_cases c1:(av.length:Int)<=alo + n
  .refine Zb1 c1 (Zac (Zau (Zcr ?_)));exact hKB _ _ _ (k2 _ _ x1 ⟨alo + n,by (exact F11 0x737078 0x1 rfl),hng,c1,xI⟩)
  refine Zbu c1 (Zal ?_);have hlt:(alo + (n:Int)).toNat < av.length:=by (exact fk [_,_] [_] 0x8749370838207048083703a 0x1110111010 rfl ha0 c1)
  have hidx:av[(alo + (n:Int)).toNat]?=some av[(alo + (n:Int)).toNat]:=List.getElem?_eq_getElem hlt;refine Zac (Zcf (Za3 (Zao (Zat G (Zo9 W0) Zn8 (by decide) (λ_=>Zbi) ⟨rfl,Zab (Zai (Zaa f1 (Zaa (by first | assumption | rfl) (Zar l1' (by (exact F11 0x737004870480 0x11 rfl ha0)) (by lia) hidx (Zab (Zat G (Zno W0) Zl7 (by decide) (λ_=>Zc7) (Zae ?_)))))))⟩))));rcases items _ _ hidx with ⟨kx,e⟩ | ⟨l,xs,e,hxs⟩
  .rw [e];refine Zou (Zaj (if_f (Zal (Zal ?_))));refine hKB _ _ _ ⟨⟨λk k1 k2=>?_,λy hy=>?_,x1⟩,hob⟩
   .by_cases hk:k < alo + n
    .exact xI k k1 hk
    .have:k=alo + n:=by push_cast at k2;(exact F12 0x73807973807720673080770 0x101110 rfl k2 hk)
     subst this;exact ⟨kx,by rw[hidx,e]⟩
   .exact updO hy (x0 y hy)
  .rw [e];refine Zot (hxs.le x1) (Zaj (if_t (Zac (Zau (Zcr ?_)))));exact hKB _ _ _ (k3 _ _ x1 ⟨alo + n,l,by lia,hng,by rw[hidx,e],xI⟩)
 .exact k1 _ _ (x.2.2.del hit') (λk a1 a2=>x.1 k a1 (by (exact F03 0x737087987087807913a 0x111011001 rfl a1 a2))) x.2.1
end
noncomputable def dJ:Stmt:=(kids (dS 5)).getD 0 (.Pass ⟨0,0,0,0⟩)
noncomputable def dW:Stmt:=(kids dJ).getD 1 (.Pass ⟨0,0,0,0⟩)
noncomputable def runE (as bs:List Int) (jk:Int->Bool) (ahi en:Int):Nat->Int->Int->Nat
 | 0,_,_=>0
 | n + 1,i,j=>if i < ahi/\j < en/\as.getD i.toNat 0=bs.getD j.toNat 0/\jk (as.getD i.toNat 0)=false then runE as bs jk ahi en n (i + 1) (j + 1) + 1 else 0
theorem runE_s {as bs:List Int}{jk:Int->Bool}{ahi en:Int}{n:Nat}{i j:Int}:runE as bs jk ahi en (n + 1) i j=if i < ahi/\j < en/\as.getD i.toNat 0=bs.getD j.toNat 0/\jk (as.getD i.toNat 0)=false then runE as bs jk ahi en n (i + 1) (j + 1) + 1 else 0:=rfl
noncomputable def runA (as bs:List Int) (jk:Int->Bool) (ahi en i j:Int):Nat:=runE as bs jk ahi en (ahi - i).toNat i j
theorem Znk {as bs:List Int}{jk:Int->Bool}{ahi en i j:Int} (h:¬ (i < ahi/\j < en/\as.getD i.toNat 0=bs.getD j.toNat 0/\jk (as.getD i.toNat 0)=false)):∀ n,runE as bs jk ahi en n i j=0
 | 0=>rfl
 | n + 1=>by rw[runE_s,if_neg h]
noncomputable def stB (as bs:List Int) (jk:Int->Bool) (ahi en i j:Int) (b:Tri):Tri:=if lexB (-(runA as bs jk ahi en i j:Int),i,j) b then (-(runA as bs jk ahi en i j:Int),i,j) else b
noncomputable def rowB (as bs:List Int) (jk:Int->Bool) (ahi blo en i:Int):Nat->Tri->Tri
 | 0,b=>b
 | n + 1,b=>stB as bs jk ahi en i (blo + n) (rowB as bs jk ahi blo en i n b)
noncomputable def allB (as bs:List Int) (jk:Int->Bool) (alo ahi blo en:Int):Nat->Tri
 | 0=>(0,alo,blo)
 | n + 1=>rowB as bs jk ahi blo en (alo + n) (en - blo).toNat (allB as bs jk alo ahi blo en n)
section
structure DU (B:Shared) (hp:Hp) (L oA tA jA:Addr) (av:List AV) (bs js:List Int) (alo ahi blo en:Int) (m:Loc):Prop where
 h1:m (S "one")=some (.ref oA)
 h2:m (S "other")=some (.ref tA)
 h3:m (S "junk")=some (.ref jA)
 h4:m (S "ahi")=some (.int ahi)
 h5:m (S "end")=some (.int en)
 h6:m (S "blo")=some (.int blo)
 h7:m (S "alo")=some (.int alo)
 l1:Lst B hp L oA av
 l2:Lst B hp L tA (bs.map .int)
 l3:Lst B hp L jA (js.map .int)
 r1 : 0<=alo
 r2 : 0<=blo
 r3:Ints av alo ahi
 r4:en<=bs.length
 r5:bs.length<=4000
 r6:ahi < 2 ^ 61
theorem DU.upd {L oA tA jA:Addr}{av:List AV}{bs js:List Int}{alo ahi blo en:Int} (D:DU B hp L oA tA jA av bs js alo ahi blo en m) {m':Loc}{hp':Hp} (h:∀ y,y ∉ Zdi->m' (S y)=m (S y)) (le:Hp.Le hp hp'):DU B hp' L oA tA jA av bs js alo ahi blo en m':=
 { D with h1:=by rw[h _ (by decide)];exact D.h1,h2:=by rw[h _ (by decide)];exact D.h2,h3:=by rw[h _ (by decide)];exact D.h3,h4:=by rw[h _ (by decide)];exact D.h4,h5:=by rw[h _ (by decide)];exact D.h5,h6:=by rw[h _ (by decide)];exact D.h6,h7:=by rw[h _ (by decide)];exact D.h7,l1:=D.l1.le le,l2:=D.l2.le le,l3:=D.l3.le le }
theorem Zn5 {L oA tA jA:Addr}{av:List AV}{bs js:List Int}{alo ahi blo en i j:Int}{KK:QX} (hu:A.units + 20 < cLine) (D:DU B hp L oA tA jA av bs js alo ahi blo en m)
  (g1:m (S "i")=some (.int i)) (g2:m (S "j")=some (.int j)) (g3:m (S "size")=some (.int 0)) (hi:alo<=i) (hj : 0<=j) (hi2:i < ahi)
  (hK:∀ m',(∀ y,y ≠ "size" -> m' (S y)=m (S y))->m' (S "size")=some (.int (runA (av.map toI) bs js.contains ahi en i j))->KK .next m' hp) :
  EX (model PW W0) A (λ_ _=>False) B (callEnv Ze0 L 260) dW m hp KK:=by
 let Iq:Nat->Loc->Hp->Prop:=λn m₂ hp₂=>hp₂=hp/\(∀ y,y ≠ "size" -> m₂ (S y)=m (S y))/\∃ k:Nat,n=(ahi - (i + k)).toNat/\m₂ (S "size")=some (.int k)/\runE (av.map toI) bs js.contains ahi en n (i + k) (j + k) + k=runA (av.map toI) bs js.contains ahi en i j;refine Zcl Iq (ahi - i).toNat ⟨rfl,λ_ _=>rfl,0,by simp,g3,by simp[runA]⟩ ?_;rintro n m₂ hp₂ ⟨rfl,x0,k,rfl,x1,x2⟩;have D':DU B hp₂ L oA tA jA av bs js alo ahi blo en m₂:=D.upd (λy hy=>x0 y (λe=>hy (by rw[e];decide))) (.refl _);obtain ⟨h1,h2,h3,h4,h5,h6,h7,l1,l2,l3,r1,r2,r3,r4,r5,r6⟩:=D';have f1:m₂ (S "i")=some (.int i):=by rw[x0 _ (by decide)];exact g1
 have f2:m₂ (S "j")=some (.int j):=by rw[x0 _ (by decide)];exact g2
 refine Zc9 λKT hKT=>?_;have out:¬ (i + k < ahi/\j + k < en/\(av.map toI).getD (i + k).toNat 0=bs.getD (j + k).toNat 0/\js.contains ((av.map toI).getD (i + k).toNat 0)=false)->KT false hp₂:=λe=>hKT _ _ (if_f (hK _ x0 (by rw[<-x2,Znk e,Nat.zero_add];exact x1)));refine Zaw (Zag (Zaf (Zad (Zaa f1 (Zaa x1 (Zap (Zaa h4 (Zea (Zaj ?_)))))))));by_cases c1:i + k < ahi
 case neg=>exact Zbu c1 (out λh=>c1 h.1)
 refine Zb1 c1 (Zag (Zaf (Zad (Zaa f2 (Zaa x1 (Zap (Zaa h5 (Zea (Zaj ?_)))))))));by_cases c2:j + k < en
 case neg=>exact Zbu c2 (out λh=>c2 h.2.1)
 refine Zb1 c2 ?_;have i1:=Ints.get r3 (k:=i + k) (by (exact F12 0x7380788780 0x11 rfl hi)) c1;have i2:(bs.map AV.int)[(j + (k:Int)).toNat]?=some (.int (bs.getD (j + k).toNat 0)):=Za5 (by (exact F11 0x737004870480 0x11 rfl hj)) (by (exact Int.lt_of_lt_of_le ‹_› ‹_›));refine Zag (Zaf (Zai (Zaa h1 (Zad (Zaa f1 (Zaa x1 (Zap (Zar l1 (by (exact F12 0x7380048704808780 0x111 rfl hi r1)) (by lia) i1 (Zai (Zaa h2 (Zad (Zaa f2 (Zaa x1 (Zap (Zar l2 (by lia) (by lia) i2 (Ze8 (Zaj ?_)))))))))))))))));cases c3:((av.map toI).getD (i + k).toNat 0 == bs.getD (j + k).toNat 0) with
 | false=>exact if_f (out λh=>by have:=beq_eq_false_iff_ne.mp c3;exact this h.2.2.1)
 | true=>
 refine if_t (Zag (Zaf (Zai (Zaa h1 (Zad (Zaa f1 (Zaa x1 (Zap (Zar l1 (by lia) (by lia) i1 (Zaa h3 (Zki l3 (by (exact ul ‹_› (by decide))) (Zaj ?_))))))))))));cases c4:js.contains ((av.map toI).getD (i + k).toNat 0) with
 | true=>exact if_f (out λh=>by rw[c4]at h;cases h.2.2.2)
 | false=>
 refine if_t (Za0 (hKT _ _ (if_t ?_)));refine Zac (Zbd x1 (Zah (Ze7 ?_)));have hc:i + k < ahi/\j + k < en/\(av.map toI).getD (i + k).toNat 0=bs.getD (j + k).toNat 0/\js.contains ((av.map toI).getD (i + k).toNat 0)=false:=⟨c1,c2,eq_of_beq c3,c4⟩;refine Zal ⟨(ahi - (i + (k + 1:Nat))).toNat,by (exact F12 0x78489370708370813a670370813a 0x11000110101011000100110 rfl c1),rfl,λy hy=>by rw[ug,if_neg hy];exact x0 y hy,k + 1,rfl,by rw[show ((k + 1:Nat):Int)=(k:Int) + 1 by rfl];(first | assumption | rfl),?_⟩;rw[<-x2,show (ahi - (i + (k:Int))).toNat=(ahi - (i + ((k + 1:Nat):Int))).toNat + 1 by (exact F12 0x670868937070680370813a7370813a 0x100001010010100001010010101010110101100110101001 rfl c1),runE_s,if_pos hc,show i + ((k + 1:Nat):Int)=i + k + 1 by (exact F11 0x6737006703709 0x11 rfl),show j + ((k + 1:Nat):Int)=j + k + 1 by lia]
 (exact F20 0x86700680706 0x11 rfl)
end
theorem Zi6 {as bs:List Int}{jk:Int->Bool}{ahi blo en i:Int}{n:Nat}{b:Tri}:rowB as bs jk ahi blo en i (n + 1) b=stB as bs jk ahi en i (blo + n) (rowB as bs jk ahi blo en i n b):=rfl
theorem Zkf {as bs:List Int}{jk:Int->Bool}{alo ahi blo en:Int}{n:Nat}:allB as bs jk alo ahi blo en (n + 1)=rowB as bs jk ahi blo en (alo + n) (en - blo).toNat (allB as bs jk alo ahi blo en n):=rfl
noncomputable def Zfv:List String:=["j", "size", "best"]
theorem jd {y:String} (h:y ∉ Zdi):y ∉ Zfv:=λe=>h (by
 simp only[Zfv,List.mem_cons,List.not_mem_nil,or_false]at e;simp only[Zdi,List.mem_cons,List.not_mem_nil,or_false]
 rcases e with e | e | e <;> simp[e])
section
theorem Zrh {L oA tA jA:Addr}{av:List AV}{bs js:List Int}{alo ahi blo en i:Int}{b:Tri}{KK:QX} (G:Gnd (KW W0) B) (hh:A.handled=none) (hu:A.units + 20 < cLine) (D:DU B hp L oA tA jA av bs js alo ahi blo en m)
  (g1:m (S "i")=some (.int i)) (g2:m (S "best")=some (tupT b)) (hi:alo<=i) (hi2:i < ahi) (hb1:blo < 2 ^ 61) (hen : -(2 ^ 61)<=en)
  (hK:∀ m' hp',Hp.Le hp hp'->(∀ y,y ∉ Zfv->m' (S y)=m (S y))->m' (S "best")=some (tupT (rowB (av.map toI) bs js.contains ahi blo en i (en - blo).toNat b))->KK .next m' hp') :
  EX (model PW W0) A (λ_ _=>False) B (callEnv Ze0 L 260) dJ m hp KK:=by
 refine Zd3 hh (Zb9 (Zat G (Zb5 W0) Zbr (by decide) (λ_=>Zc7) ⟨rfl,Zab (Zaa D.h6 (Zab (Zaa D.h5 (Zae (Zc1 λr ob hr hrL ro=>?_)))))⟩));have hr4:=D.r4;have hr5:=D.r5;have hr2:=D.r2;refine ⟨r,ob,blo,en,rfl,Hp.ss ..,hrL,ro,by lia,by lia,by lia,by lia,λit hit hitL=>?_⟩;have hle1:Hp.Le hp (hp.set r (.obj ob)):=(Hp.Le.refl _).set hr _;have hit':hp it=none:=hle1.none hit;refine ⟨λn m₂ hp₂=>(∀ y,y ∉ Zfv->m₂ (S y)=m (S y))/\Hp.Le hp hp₂/\m₂ (S "best")=some (tupT (rowB (av.map toI) bs js.contains ahi blo en i n b)),λob'=>?_,λn m₂ hp₂ ob' x=>?_,λn m₂ hp₂ ob' hn x hob=>?_,λm₂ hp₂ x=>?_⟩
 .exact ⟨λ_ _=>rfl,hle1.set hit' _,g2⟩
 .exact ⟨x.1,x.2.1.set hit' _,x.2.2⟩
 .obtain ⟨x0,x1,x2⟩:=x;refine Zak ?_;refine Zb0 λKB hKB=>?_;refine Zac (Zaq (Zah ?_));have q0:∀ y,y ∉ Zfv->(upd (upd m₂ (S "j") (.int (blo + n))) (S "size") (.int 0)) (S y)=m (S y):=λy hy=>updO hy (updO hy (x0 y hy));have D':DU B hp₂ L oA tA jA av bs js alo ahi blo en (upd (upd m₂ (S "j") (.int (blo + n))) (S "size") (.int 0)):=D.upd (λy hy=>q0 y (jd hy)) x1;refine Zac (Zn5 (A:=A) hu D' (i:=i) (j:=blo + n) (by rw[q0 _ (by decide)];exact g1) (by first | assumption | rfl) (by first | assumption | rfl) hi (by (exact F11 0x737004870480 0x11 rfl hr2)) hi2 λm3 y0 y1=>?_);have z0:m3 (S "best")=some (tupT (rowB (av.map toI) bs js.contains ahi blo en i n b)):=by rw[y0 _ (by decide),ug,if_neg (by decide),ug,if_neg (by decide)];exact x2
  have z1:m3 (S "i")=some (.int i):=by rw[y0 _ (by decide),q0 _ (by decide)];exact g1
  have z2:m3 (S "j")=some (.int (blo + n)):=by rw[y0 _ (by decide)];(first | assumption | rfl)
  refine Zac (Zaq (Zao (Zat G (Zfo W0) Zd0 (by decide) (λ_=>Zbi) ⟨rfl,Zab (Zaa z0 (Zab (Zan (Zab (Zge (Zaa y1 ⟨_,rfl,Zab (Zaa z1 (Zab (Zaa z2 (Zae ⟨sz rfl,Zae ?_⟩))))⟩))))))⟩)));refine Zop (x:=rowB (av.map toI) bs js.contains ahi blo en i n b) (y:=(-(runA (av.map toI) bs js.contains ahi en i (blo + n):Int),i,blo + n)) hh hu ?_;refine Zal (hKB _ _ _ ⟨⟨λy hy=>updO hy ?_,x1,?_⟩,hob⟩)
  .rw [y0 y (λe=>hy (by rw[e];decide))];exact q0 y hy
  .rw [Zi6];(first | assumption | rfl)
 .exact hK _ _ (x.2.1.del hit') x.1 x.2.2
theorem Zpy {L oA tA jA:Addr}{av:List AV}{bs js:List Int}{alo ahi blo en:Int}{KK:QX} (G:Gnd (KW W0) B) (hh:A.handled=none) (hu:A.units + 20 < cLine) (D:DU B hp L oA tA jA av bs js alo ahi blo en m)
  (g2:m (S "best")=some (tupT (0,alo,blo))) (hb1:blo < 2 ^ 61) (hen : -(2 ^ 61)<=en) (haa:alo < 2 ^ 61) (haz : -(2 ^ 61)<=ahi)
  (hK:∀ m' hp',Hp.Le hp hp'->(∀ y,y ∉ Zdi->m' (S y)=m (S y))->m' (S "best")=some (tupT (allB (av.map toI) bs js.contains alo ahi blo en (ahi - alo).toNat))->KK .next m' hp') :
  EX (model PW W0) A (λ_ _=>False) B (callEnv Ze0 L 260) (dS 5) m hp KK:=by
 refine Zd3 hh (Zb9 (Zat G (Zb5 W0) Zbr (by decide) (λ_=>Zc7) ⟨rfl,Zab (Zaa D.h7 (Zab (Zaa D.h4 (Zae (Zc1 λr ob hr hrL ro=>?_)))))⟩));have hr1:=D.r1;have hr6:=D.r6;refine ⟨r,ob,alo,ahi,rfl,Hp.ss ..,hrL,ro,by lia,by lia,by lia,by lia,λit hit hitL=>?_⟩;have hle1:Hp.Le hp (hp.set r (.obj ob)):=(Hp.Le.refl _).set hr _;have hit':hp it=none:=hle1.none hit;refine ⟨λn m₂ hp₂=>(∀ y,y ∉ Zdi->m₂ (S y)=m (S y))/\Hp.Le hp hp₂/\m₂ (S "best")=some (tupT (allB (av.map toI) bs js.contains alo ahi blo en n)),λob'=>?_,λn m₂ hp₂ ob' x=>?_,λn m₂ hp₂ ob' hn x hob=>?_,λm₂ hp₂ x=>?_⟩
 .exact ⟨λ_ _=>rfl,hle1.set hit' _,g2⟩
 .exact ⟨x.1,x.2.1.set hit' _,x.2.2⟩
 .obtain ⟨x0,x1,x2⟩:=x;refine Zak ?_;refine Zb0 λKB hKB=>?_;have q0:∀ y,y ∉ Zdi->(upd m₂ (S "i") (.int (alo + n))) (S y)=m (S y):=λy hy=>updO hy (x0 y hy);refine Zac (Zrh (A:=A) (i:=alo + n) (b:=allB (av.map toI) bs js.contains alo ahi blo en n) G hh hu (D.upd q0 x1) (by first | assumption | rfl) (by rw[ug,if_neg (by decide)];exact x2) (by (exact F11 0x737078 0x1 rfl)) (by (exact F12 0x88370778407813a 0x1011110 rfl hn)) hb1 hen λm3 hp3 y0 y1 y2=>?_);refine Zal (hKB _ _ _ ⟨⟨λy hy=>?_,x1.trans y0,by rw[Zkf];exact y2⟩,y0 _ _ hob⟩);rw[y1 y (jd hy)];exact q0 y hy
 .exact hK _ _ (x.2.1.del hit') x.1 x.2.2
end
noncomputable def seg {α:Type} (xs:List α) (a b:Int):List α:=(xs.drop a.toNat).take (b - a).toNat
theorem Zhb {α:Type} (xs:List α) {a b:Int} (ha : 0<=a) (hab:a<=b) (hb:b<=xs.length):pick xs (some a) (some b)=seg xs a b:=by
 have c:∀ k:Int,0<=k->k<=xs.length->clipAt xs.length k=k.toNat:=λk h0 h1=>by unfold clipAt;lia
 unfold pick seg;simp only[Option.elim];rw[c a ha (by (exact Int.le_trans ‹_› ‹_›)),c b (by (exact Int.le_trans ‹_› ‹_›)) hb,show b.toNat - a.toNat=(b - a).toNat by lia]
theorem Zlc {av:List AV}{a b:Int} (h:Ints av a b) (ha : 0<=a):seg av a b=(seg (av.map toI) a b).map .int:=by
 apply List.ext_getElem?;intro k;unfold seg;rw[List.getElem?_map,List.getElem?_take,List.getElem?_take,List.getElem?_drop,List.getElem?_drop,List.getElem?_map];by_cases hk:k < (b - a).toNat
 .rw [if_pos hk,if_pos hk];obtain ⟨x,e⟩:=h (a + k) (by (exact F11 0x737078 0x1 rfl)) (by (exact F12 0x88370778407813a 0x1011110 rfl hk));rw[show (a + (k:Int)).toNat=a.toNat + k by (exact F11 0x970867048073a73703a 0x100001110110100001101010101010110101100110101001 rfl ha)]at e;rw[e];rfl
 .rw [if_neg hk,if_neg hk];rfl
theorem Zi2 {α:Type} (xs:List α) (a b:Int):(seg xs a b).length<=xs.length:=by unfold seg;rw[List.length_take,List.length_drop];omega
theorem Zgj {as bs:List Int}{jk:Int->Bool}{ahi en:Int}:∀ (n:Nat) (i j:Int),i<=ahi->j<=en->i + runE as bs jk ahi en n i j<=ahi/\j + runE as bs jk ahi en n i j<=en
 | 0,i,j,h1,h2=>by simp only[runE];lia
 | n + 1,i,j,h1,h2=>by
  rw[runE_s];split
  .rename_i h;have:=Zgj (as:=as) (bs:=bs) (jk:=jk) (ahi:=ahi) (en:=en) n (i + 1) (j + 1) (by (exact F02 0x867088770 0x11 rfl h.1)) (by (exact F02 0x867088770 0x11 rfl h.2.1))
   push_cast
   lia
  .simp only [Int.natCast_zero];lia
structure BD (alo ahi blo en:Int) (b:Tri):Prop where
 s0:b.1<=0
 a0:alo<=b.2.1
 a1:b.2.1 - b.1<=ahi
 b0:blo<=b.2.2
 b1:b.2.2 - b.1<=en
theorem BD.st {as bs:List Int}{jk:Int->Bool}{alo ahi blo en i j:Int}{b:Tri} (h:BD alo ahi blo en b) (h1:alo<=i) (h2:i<=ahi) (h3:blo<=j) (h4:j<=en):BD alo ahi blo en (stB as bs jk ahi en i j b):=by
 unfold stB;have:=Zgj (as:=as) (bs:=bs) (jk:=jk) (ahi - i).toNat i j h2 h4;split
 .exact ⟨by show -(runA as bs jk ahi en i j:Int)<=0;lia,h1,by show i - -(runA as bs jk ahi en i j:Int)<=ahi;unfold runA;lia,h3,by show j - -(runA as bs jk ahi en i j:Int)<=en;unfold runA;lia⟩
 .exact h
theorem BD.row {as bs:List Int}{jk:Int->Bool}{alo ahi blo en i:Int} (h1:alo<=i) (h2:i<=ahi):∀ (n:Nat) {b:Tri},BD alo ahi blo en b->blo + n<=en->BD alo ahi blo en (rowB as bs jk ahi blo en i n b)
 | 0,b,h,_=>h
 | n + 1,b,h,hn=>by rw[Zi6];exact (BD.row h1 h2 n h (by (exact F12 0x873708867037080 0x11 rfl hn))).st h1 h2 (by lia) (by lia)
theorem BD.all {as bs:List Int}{jk:Int->Bool}{alo ahi blo en:Int} (hb:blo<=en):∀ n:Nat,alo + n<=ahi->BD alo ahi blo en (allB as bs jk alo ahi blo en n)
 | 0,h=>⟨Int.le_refl _,Int.le_refl _,by show alo - 0<=ahi;assumption,Int.le_refl _,by show blo - 0<=en;(exact F02 0x8047188780 0x11 rfl hb)⟩
 | n + 1,h=>by rw[Zkf];exact BD.row (by lia) (by lia) _ (BD.all hb n (by lia)) (by (exact F02 0x87370887807813a 0x11011010 rfl hb))
noncomputable def dueV (as bs:List Int) (jk:Int->Bool) (alo ahi blo bhi:Int):AV:=
 if alo>=ahi\/blo>=bhi then tupT (alo,blo,0) else if blo > bs.length then .str (S "IndexError") else
 let en:=if (bs.length:Int) < bhi then (bs.length:Int) else bhi
 let b:=allB as bs jk alo ahi blo en (ahi - alo).toNat
 let bf:Int:=grow jk (seg as alo b.2.1).reverse (seg bs blo b.2.2).reverse false;let s2:Int:=-b.1 + grow jk (seg as (b.2.1 + -b.1) ahi) (seg bs (b.2.2 + -b.1) en) false
 if b.2.2 + s2=bs.length/\(bs.length:Int) < bhi/\b.2.1 + s2 < ahi then .str (S "IndexError") else tupT (b.2.1 - bf,b.2.2 - bf,bf + s2)
theorem Ints.len {av:List AV}{lo hi:Int} (h:Ints av lo hi) (h0 : 0<=lo) (h1:lo < hi):hi<=av.length:=by
 obtain ⟨x,e⟩:=h (hi - 1) (by (exact F02 0x681788770 0x11 rfl h1)) (by lia);have:=(List.getElem?_eq_some_iff.mp e).1
 (exact F11 0x837887406713a 0x11101101 rfl this)
theorem Ints.sub {av:List AV}{lo hi a b:Int} (h:Ints av lo hi) (h0:lo<=a) (h1:b<=hi):Ints av a b:=λk k1 k2=>h k (by (exact Int.le_trans ‹_› ‹_›)) (by (exact Int.lt_of_lt_of_le ‹_› ‹_›))
section
theorem Zqg {oA tA jA:Addr}{av:List AV}{bs js:List Int}{alo ahi blo bhi:Int}{Q:QV} (G:Gnd (KW W0) B) (hh:A.handled=none) (hroom:A.depth + 4 < recursionLimit) (hu:A.units + 110 < cLine)
  (l1:Lst B hp env.locals oA av) (l2:Lst B hp env.locals tA (bs.map .int)) (l3:Lst B hp env.locals jA (js.map .int)) (items:∀ (i:Nat) y,av[i]?=some y->(∃ k,y = .int k)\/∃ l xs,y = .ref l/\Lst B hp env.locals l xs)
  (ha0 : 0<=alo) (haa:alo < 2 ^ 61) (ha1:ahi < 2 ^ 61) (haz : -(2 ^ 61)<=ahi) (hb0 : 0<=blo) (hbb:blo < 2 ^ 61) (hlen:av.length<=4000) (hlb:bs.length<=4000)
  (q1:Ints av alo ahi->Q (dueV (av.map toI) bs js.contains alo ahi blo bhi) hp)
  (q2:(∃ i,alo<=i/\i < ahi/\(av.length:Int)<=i/\Ints av alo i)->Q (.str (S "IndexError")) hp)
  (q3:(∃ i l,alo<=i/\i < ahi/\av[i.toNat]?=some (.ref l)/\Ints av alo i)->Q (.str (S "TypeError")) hp) :
  CL (model PW W0) A E B env (.ref 260) m [.ref oA,.ref tA,.int alo,.int ahi,.int blo,.int bhi,.ref jA] hp Q:=by
 refine CD.cl (Zff (bs:=[(S "junk",.ref jA),(S "bhi",.int bhi),(S "blo",.int blo),(S "ahi",.int ahi),(S "alo",.int alo),(S "other",.ref tA),(S "one",.ref oA)]) (body:=Zbg (topS PW 8)) G (kDue W0) (by kernel_rfl) rfl (by (exact ul0 ‹_›)) (λs vs hv hk=>?_) (by kernel_rfl) (by decide) (λL hL hLe=>?_))
 .simp only [VRs]at hv;obtain ⟨v1,r1,rfl,h1,v2,r2,rfl,h2,v3,r3,rfl,h3,v4,r4,rfl,h4,v5,r5,rfl,h5,v6,r6,rfl,h6,v7,r7,rfl,h7,rfl⟩:=hv;exact ⟨[(S "one",v1),(S "other",v2),(S "alo",v3),(S "ahi",v4),(S "blo",v5),(S "bhi",v6),(S "junk",v7)],BindsTo.of_eq rfl,rfl,.mk h7 (.mk h6 (.mk h5 (.mk h4 (.mk h3 (.mk h2 (.mk h1 .nil))))))⟩
 generalize hm0:locOf [(S "junk",AV.ref jA),(S "bhi",.int bhi),(S "blo",.int blo),(S "ahi",.int ahi),(S "alo",.int alo),(S "other",.ref tA),(S "one",.ref oA)]=m0;have g0:m0 (S "junk")=some (.ref jA):=by rw[<-hm0];rfl
 have g1:m0 (S "bhi")=some (.int bhi):=by rw[<-hm0];rfl
 have g2:m0 (S "blo")=some (.int blo):=by rw[<-hm0];rfl
 have g3:m0 (S "ahi")=some (.int ahi):=by rw[<-hm0];rfl
 have g4:m0 (S "alo")=some (.int alo):=by rw[<-hm0];rfl
 have g5:m0 (S "other")=some (.ref tA):=by rw[<-hm0];rfl
 have g6:m0 (S "one")=some (.ref oA):=by rw[<-hm0];rfl
 clear hm0;have l1':=l1.call (m:=m) hL;have l2':=l2.call (m:=m) hL;have l3':=l3.call (m:=m) hL;refine Zac (Zj1 (A:=A.deeper (callEnv Ze0 L 260)) (L:=L) G hh g6 g4 g3 l1' (λi y hy=>(items i y hy).imp (λh=>h) λ⟨l,xs,e,h⟩=>⟨l,xs,e,h.call hL⟩) ha0 haa ha1 haz hlen (λm1 hp1 le1 hI x0=>?_) (λm1 hp1 le1 hx=>Zcn le1 hL (q2 hx)) (λm1 hp1 le1 hx=>Zcn le1 hL (q3 hx)));have f0:m1 (S "junk")=some (.ref jA):=by rw[x0 _ (by decide)];exact g0
 have f1:m1 (S "bhi")=some (.int bhi):=by rw[x0 _ (by decide)];exact g1
 have f2:m1 (S "blo")=some (.int blo):=by rw[x0 _ (by decide)];exact g2
 have f3:m1 (S "ahi")=some (.int ahi):=by rw[x0 _ (by decide)];exact g3
 have f4:m1 (S "alo")=some (.int alo):=by rw[x0 _ (by decide)];exact g4
 have f5:m1 (S "other")=some (.ref tA):=by rw[x0 _ (by decide)];exact g5
 have f6:m1 (S "one")=some (.ref oA):=by rw[x0 _ (by decide)];exact g6
 clear g0 g1 g2 g3 g4 g5 g6 x0;have l1'':=l1'.le le1;have l2'':=l2'.le le1;have l3'':=l3'.le le1;have q1':=q1 hI;unfold dueV at q1';dsimp only at q1';have hlbm:(bs.map AV.int).length=bs.length:=List.length_map ..;refine Zac (Zcf (Zaw (Zby (Zaf (Zaa f4 (Zaa f3 (Zkl (Zaj ?_))))))));by_cases c1:alo>=ahi
 .rw [if_pos (.inl c1)]at q1';exact Zb1 c1 (if_t (Zac (Zau (Zan (Zab (Zaa f4 (Zab (Zaa f2 (Zab (Zah (Zae ⟨sz rfl,Zcn le1 hL q1'⟩)))))))))))
 refine Zbu c1 (Zby (Zaf (Zaa f2 (Zaa f1 (Zkl (Zaj ?_))))));by_cases c2:blo>=bhi
 .rw [if_pos (.inr c2)]at q1';exact Zb1 c2 (if_t (Zac (Zau (Zan (Zab (Zaa f4 (Zab (Zaa f2 (Zab (Zah (Zae ⟨sz rfl,Zcn le1 hL q1'⟩)))))))))))
 refine Zbu c2 (Zd5 (if_f (Zal ?_)));rw[if_neg (λh=>h.elim c1 c2)]at q1';refine Zac (Zcf (Zaf (Zaa f2 (Zao (Zat G (Zbc W0) Zaz (by decide) (λ_=>Zbi) ⟨rfl,Zab (Zaa f5 (Zae (Zbe l2'' (by rw[hlbm];exact sz' (by (exact Nat.le_trans ‹_› (by decide)))) (Zic (Zaj ?_)))))⟩)))));rw[hlbm];by_cases c3:(bs.length:Int) < blo
 .rw [if_pos (show blo > bs.length from c3)]at q1';exact Zb1 c3 (Zac (Zau (Zcr (Zcn le1 hL q1'))))
 refine Zbu c3 (Zal ?_);rw[if_neg (show ¬ blo > bs.length from c3)]at q1';refine Zac (Zaq (Zao (Zat G (Zfo W0) Zd0 (by decide) (λ_=>Zbi) ⟨rfl,Zab (Zaa f1 (Zab (Zao (Zat G (Zbc W0) Zaz (by decide) (λ_=>Zbi) ⟨rfl,Zab (Zaa f5 (Zae (Zbe l2'' (by rw[hlbm];exact sz' (by (exact Nat.le_trans ‹_› (by decide)))) (Zae (Zhv hh ?_)))))⟩))))⟩)));rw[hlbm];generalize hen:(if (bs.length:Int) < bhi then (bs.length:Int) else bhi)=en at q1' ⊢;have en1:en<=bs.length:=by rw[<-hen];split <;> (first | exact F10 0x73738 0x1 rfl | exact F11 0x7378773720 0x11 rfl ‹_›)
 have en2:blo<=en:=by rw[<-hen];split <;> (first | exact F11 0x7378773720 0x11 rfl c3 | exact F02 0x78887820 0x11 rfl c2)
 refine Zac (Zaq (Zan (Zab (Zah (Zab (Zaa (by first | assumption | rfl) (Zab (Zaa (by first | assumption | rfl) (Zae ⟨sz rfl,?_⟩)))))))));dsimp only;generalize hm2:upd (upd m1 (PySem.Str.ofString "end") (.int en)) (PySem.Str.ofString "best") (.tup [.int 0,.int alo,.int blo])=m2;have D:DU B hp1 L oA tA jA av bs js alo ahi blo en m2:=by rw[<-hm2];exact ⟨by first | assumption | rfl,by first | assumption | rfl,by first | assumption | rfl,by first | assumption | rfl,by first | assumption | rfl,by first | assumption | rfl,by first | assumption | rfl,l1'',l2'',l3'',ha0,hb0,hI,en1,hlb,ha1⟩
 have hbm:m2 (S "best")=some (tupT (0,alo,blo)):=by rw[<-hm2];(first | assumption | rfl)
 refine Zac (Zpy (A:=A.deeper (callEnv Ze0 L 260)) G hh (by show A.units + 3 + 20 < _;(exact F20 0x814534700486e57040 0x11 rfl hu)) D hbm hbb (by lia) haa haz λm3 hp3 le3 y0 y1=>?_);have h1:m3 (S "one")=some (.ref oA):=by rw[y0 _ (by decide)];exact D.h1
 have h2:m3 (S "other")=some (.ref tA):=by rw[y0 _ (by decide)];exact D.h2
 have h3:m3 (S "junk")=some (.ref jA):=by rw[y0 _ (by decide)];exact D.h3
 have h4:m3 (S "ahi")=some (.int ahi):=by rw[y0 _ (by decide)];exact D.h4
 have h5:m3 (S "end")=some (.int en):=by rw[y0 _ (by decide)];exact D.h5
 have h6:m3 (S "blo")=some (.int blo):=by rw[y0 _ (by decide)];exact D.h6
 have h7:m3 (S "alo")=some (.int alo):=by rw[y0 _ (by decide)];exact D.h7
 have h8:m3 (S "bhi")=some (.int bhi):=by rw[y0 _ (by decide),<-hm2];(first | assumption | rfl)
 clear hm2 f0 f1 f2 f3 f4 f5 f6 hbm y0 D;have bd:BD alo ahi blo en (allB (av.map toI) bs js.contains alo ahi blo en (ahi - alo).toNat):=BD.all en2 _ (by (exact F02 0x773808878208713a 0x1101010 rfl c1));generalize allB (av.map toI) bs js.contains alo ahi blo en (ahi - alo).toNat=b at q1' y1 bd;obtain ⟨b1,b2,b3⟩:=b;have hal:ahi<=av.length:=hI.len ha0 (by (exact Int.not_le.mp ‹_›));obtain ⟨s0,a0,a1,b0,b1'⟩:=bd;simp only at s0 a0 a1 b0 b1' q1';have y1':m3 (S "best")=some (.tup [.int b1,.int b2,.int b3]):=y1;refine Zac (Za4 (names:=[S "size",S "i",S "j"]) hh (Zan (Zab (Zge (Zai (Zaa y1' (Zah (Zgy (j:=0) (by decide) (by decide) rfl rfl ⟨_,rfl,?_⟩))))))));refine Zab (Zai (Zaa y1' (Zah (Zgy (j:=1) (by decide) (by decide) rfl rfl (Zab (Zai (Zaa y1' (Zah (Zgy (j:=2) (by decide) (by decide) rfl rfl (Zae ⟨sz rfl,?_⟩))))))))));refine ⟨_,rfl,rfl,Zas (Zas (Zas (Zav ?_)))⟩;generalize hm4:upd (upd (upd m3 (S "j") (.int b3)) (S "i") (.int b2)) (S "size") (.int (-b1))=m4;have k1:m4 (S "one")=some (.ref oA):=by rw[<-hm4];(first | assumption | rfl)
 have k2:m4 (S "other")=some (.ref tA):=by rw[<-hm4];(first | assumption | rfl)
 have k3:m4 (S "junk")=some (.ref jA):=by rw[<-hm4];(first | assumption | rfl)
 have k4:m4 (S "ahi")=some (.int ahi):=by rw[<-hm4];(first | assumption | rfl)
 have k5:m4 (S "end")=some (.int en):=by rw[<-hm4];(first | assumption | rfl)
 have k6:m4 (S "blo")=some (.int blo):=by rw[<-hm4];(first | assumption | rfl)
 have k7:m4 (S "alo")=some (.int alo):=by rw[<-hm4];(first | assumption | rfl)
 have k8:m4 (S "bhi")=some (.int bhi):=by rw[<-hm4];(first | assumption | rfl)
 have k9:m4 (S "size")=some (.int (-b1)):=by rw[<-hm4];(first | assumption | rfl)
 have k10:m4 (S "i")=some (.int b2):=by rw[<-hm4];(first | assumption | rfl)
 have k11:m4 (S "j")=some (.int b3):=by rw[<-hm4];(first | assumption | rfl)
 clear hm4 h1 h2 h3 h4 h5 h6 h7 h8 y1 y1';have le4:=le1.trans le3;have n1:=l1''.le le3;have n2:=l2''.le le3;have n3:=l3''.le le3;have p1:∀ a b:Int,alo<=a->a<=b->b<=ahi->pick av (some a) (some b)=(seg (av.map toI) a b).map .int:=λa b u1 u2 u3=>by rw[Zhb av (by (exact F02 0x8048878070480 0x111 rfl ha0 u1)) u2 (by (exact Int.le_trans ‹_› ‹_›)),Zlc (hI.sub u1 u3) (by lia)]
 have p2:∀ a b:Int,0<=a->a<=b->b<=en->pick (bs.map AV.int) (some a) (some b)=(seg bs a b).map .int:=λa b u1 u2 u3=>by rw[Zhb (bs.map AV.int) u1 u2 (by rw[hlbm];(exact Int.le_trans ‹_› ‹_›))];unfold seg;rw[List.map_take,List.map_drop]
 have z1:∀ a b:Int,(seg (av.map toI) a b).length<=4000:=λa b=>Nat.le_trans (Zi2 ..) (by rw[List.length_map];exact hlen);have z2:∀ a b:Int,(seg bs a b).length<=4000:=λa b=>Nat.le_trans (Zi2 ..) hlb;refine Zac (Zaq (Zdp G (Zgr W0) rfl (Zdd G (Zhj W0) (λ_=>VR_ref) ⟨rfl,Zab (Zen (Zbx (Zaa k1 (Zaa k7 (Zaa k10 ⟨oA,av,some alo,some b2,rfl,n1,sz' (by (exact Nat.le_trans ‹_› (by decide))),rfl,rfl,λc hc hcL=>?_⟩)))))⟩)));rw[p1 alo b2 (by (exact Int.le_refl _)) a0 (by (exact F03 0x98897818004780 0x111 rfl s0 a1))];have e1:=(Hp.Le.refl hp3).set hc (.list ((seg (av.map toI) alo b2).map .int));refine Zge (Zah ⟨_,rfl,c,_,rfl,rfl,.inl ⟨Hp.ss ..,hcL⟩,by rw[List.length_map];exact Nat.le_trans (z1 _ _) (by decide),λd hd hdL=>?_⟩);have e2:=e1.set (e1.none hd) (.list ((seg (av.map toI) alo b2).map AV.int).reverse);have v1:Lst B ((hp3.set c (.list ((seg (av.map toI) alo b2).map .int))).set d (.list ((seg (av.map toI) alo b2).map AV.int).reverse)) L d ((seg (av.map toI) alo b2).reverse.map .int):=.inl ⟨by rw[List.map_reverse];exact Hp.ss ..,hdL⟩;generalize (hp3.set c (.list ((seg (av.map toI) alo b2).map .int))).set d (.list ((seg (av.map toI) alo b2).map AV.int).reverse)=hp5 at e2 v1 ⊢;clear e1 hc hcL hd hdL;refine Zab (Zen (Zbx (Zaa k2 (Zaa k6 (Zaa k11 ⟨tA,bs.map .int,some blo,some b3,rfl,n2.le e2,by rw[hlbm];exact sz' (by (exact Nat.le_trans ‹_› (by decide))),rfl,rfl,λc hc hcL=>?_⟩)))));rw[p2 blo b3 hb0 b0 (by lia)];have e3:=e2.set (e2.none hc) (.list ((seg bs blo b3).map .int));refine Zge (Zah ⟨_,rfl,c,_,rfl,rfl,.inl ⟨Hp.ss ..,hcL⟩,by rw[List.length_map];exact Nat.le_trans (z2 _ _) (by decide),λd hd hdL=>?_⟩);have e4:=e3.set (e3.none hd) (.list ((seg bs blo b3).map AV.int).reverse);have v1':=(v1.le ((Hp.Le.refl hp5).set hc _)).le ((Hp.Le.refl _).set hd (.list ((seg bs blo b3).map AV.int).reverse));have v2:Lst B ((hp5.set c (.list ((seg bs blo b3).map .int))).set d (.list ((seg bs blo b3).map AV.int).reverse)) L d ((seg bs blo b3).reverse.map .int):=.inl ⟨by rw[List.map_reverse];exact Hp.ss ..,hdL⟩;generalize (hp5.set c (.list ((seg bs blo b3).map .int))).set d (.list ((seg bs blo b3).map AV.int).reverse)=hp6 at e4 v1' v2 ⊢;clear e2 e3 hc hcL hd hdL v1;refine Zab (Zaa k3 (Zae ?_));refine Zgg (A:=A.deeper (callEnv Ze0 L 260)) G hh (by show A.depth + 1 < _;(exact ul ‹_› (by decide))) (by show A.units + 3 + 30 < _;(exact F20 0x81e534700486e57040 0x11 rfl hu)) v1' v2 (n3.le e4) (by rw[List.length_reverse];exact z1 _ _) (by rw[List.length_reverse];exact z2 _ _) ?_;generalize grow js.contains (seg (av.map toI) alo b2).reverse (seg bs blo b3).reverse false=bf at q1' ⊢;refine Zac (Zbd (by first | assumption | rfl) (Zdp G (Zgr W0) rfl (Zdd G (Zhj W0) (λ_=>VR_ref) ⟨rfl,Zab (Zbx (Zaa (by first | assumption | rfl) (Zad (Zaa (by first | assumption | rfl) (Zaa (by first | assumption | rfl) (Zap (Zaa (by first | assumption | rfl) ⟨oA,av,some (b2 + -b1),some ahi,rfl,n1.le e4,sz' (by (exact Nat.le_trans ‹_› (by decide))),rfl,rfl,λc hc hcL=>?_⟩)))))))⟩)));rw[p1 (b2 + -b1) ahi (by lia) ‹_› (by (exact Int.le_refl _))];have e5:=e4.set (e4.none hc) (.list ((seg (av.map toI) (b2 + -b1) ahi).map .int));have v3:Lst B (hp6.set c (.list ((seg (av.map toI) (b2 + -b1) ahi).map .int))) L c ((seg (av.map toI) (b2 + -b1) ahi).map .int):=.inl ⟨Hp.ss ..,hcL⟩;generalize hp6.set c (.list ((seg (av.map toI) (b2 + -b1) ahi).map .int))=hp7 at e5 v3 ⊢;clear e4 hc hcL v1' v2;refine Zab (Zbx (Zaa (by first | assumption | rfl) (Zad (Zaa (by first | assumption | rfl) (Zaa (by first | assumption | rfl) (Zap (Zaa (by first | assumption | rfl) ⟨tA,bs.map .int,some (b3 + -b1),some en,rfl,n2.le e5,by rw[hlbm];exact sz' (by (exact Nat.le_trans ‹_› (by decide))),rfl,rfl,λc hc hcL=>?_⟩)))))));rw[p2 (b3 + -b1) en (by lia) ‹_› (by (exact Int.le_refl _))];have e6:=e5.set (e5.none hc) (.list ((seg bs (b3 + -b1) en).map .int));have v4:Lst B (hp7.set c (.list ((seg bs (b3 + -b1) en).map .int))) L c ((seg bs (b3 + -b1) en).map .int):=.inl ⟨Hp.ss ..,hcL⟩;have v3':=v3.le ((Hp.Le.refl hp7).set hc (.list ((seg bs (b3 + -b1) en).map .int)));generalize hp7.set c (.list ((seg bs (b3 + -b1) en).map .int))=hp8 at e6 v3' v4 ⊢;clear e5 hc hcL v3;refine Zab (Zaa (by first | assumption | rfl) (Zae ?_));refine Zgg (A:=A.deeper (callEnv Ze0 L 260)) G hh (by show A.depth + 1 < _;(exact ul ‹_› (by decide))) (by show A.units + 3 + 30 < _;lia) v3' v4 (n3.le e6) (z1 _ _) (z2 _ _) (Ze7 ?_);have le6:=le4.trans e6;have n2':=n2.le e6;generalize grow js.contains (seg (av.map toI) (b2 + -b1) ahi) (seg bs (b3 + -b1) en) false=g2 at q1' ⊢;clear v3' v4 e6 p1 p2 z1 z2 n1 n2 n3;refine Zac (Zcf (Zaw (Zag (Zaf (Zad (Zaa (by first | assumption | rfl) (Zaa (by first | assumption | rfl) (Zap (Zao (Zat G (Zbc W0) Zaz (by decide) (λ_=>Zbi) ⟨rfl,Zab (Zaa (by first | assumption | rfl) (Zae (Zbe n2' (by rw[hlbm];exact sz' (by (exact Nat.le_trans ‹_› (by decide)))) (Ze8 (Zaj ?_)))))⟩))))))))));rw[hlbm];cases c4:(b3 + (-b1 + (g2:Int)) == (bs.length:Int)) with
 | false=>
  have c4':=beq_eq_false_iff_ne.mp c4;rw[if_neg (λh=>c4' h.1)]at q1';refine if_f (if_f (Zal ?_));exact Zac (Zau (Zan (Zab (Zad (Zaa (by first | assumption | rfl) (Zaa (by first | assumption | rfl) (Za6 (Zab (Zad (Zaa (by first | assumption | rfl) (Zaa (by first | assumption | rfl) (Za6 (Zab (Zad (Zaa (by first | assumption | rfl) (Zaa (by first | assumption | rfl) (Zap (Zae ⟨sz rfl,Zcn le6 hL q1'⟩))))))))))))))))))
 | true=>
  have c4':=eq_of_beq c4;refine if_t (Zag (Zaf (Zao (Zat G (Zbc W0) Zaz (by decide) (λ_=>Zbi) ⟨rfl,Zab (Zaa (by first | assumption | rfl) (Zae (Zbe n2' (by rw[hlbm];exact sz' (by (exact Nat.le_trans ‹_› (by decide)))) (Zaa (by first | assumption | rfl) (Zea (Zaj ?_))))))⟩))));rw[hlbm];by_cases c5:(bs.length:Int) < bhi
  case neg=>
   rw[if_neg (λh=>c5 h.2.1)]at q1';refine Zbu c5 (if_f (Zal ?_));exact Zac (Zau (Zan (Zab (Zad (Zaa (by first | assumption | rfl) (Zaa (by first | assumption | rfl) (Za6 (Zab (Zad (Zaa (by first | assumption | rfl) (Zaa (by first | assumption | rfl) (Za6 (Zab (Zad (Zaa (by first | assumption | rfl) (Zaa (by first | assumption | rfl) (Zap (Zae ⟨sz rfl,Zcn le6 hL q1'⟩))))))))))))))))))
  refine Zb1 c5 (Zag (Zaf (Zad (Zaa (by first | assumption | rfl) (Zaa (by first | assumption | rfl) (Zap (Zaa (by first | assumption | rfl) (Zea (Zaj ?_)))))))));by_cases c6:b2 + (-b1 + (g2:Int)) < ahi
  .rw [if_pos ⟨c4',c5,c6⟩]at q1';exact Zb1 c6 (Za0 (if_t (Zac (Zau (Zcr (Zcn le6 hL q1'))))))
  .rw [if_neg (λh=>c6 h.2.2)]at q1';refine Zbu c6 (if_f (Zal ?_));exact Zac (Zau (Zan (Zab (Zad (Zaa (by first | assumption | rfl) (Zaa (by first | assumption | rfl) (Za6 (Zab (Zad (Zaa (by first | assumption | rfl) (Zaa (by first | assumption | rfl) (Za6 (Zab (Zad (Zaa (by first | assumption | rfl) (Zaa (by first | assumption | rfl) (Zap (Zae ⟨sz rfl,Zcn le6 hL q1'⟩))))))))))))))))))
end
noncomputable def MN (as bs:List Int) (jk:Int->Bool) (p q:Int):Prop:=0<=q/\q < bs.length/\as.getD p.toNat 0=bs.getD q.toNat 0/\jk (as.getD p.toNat 0)=false
theorem Zi4 {as bs:List Int}{jk:Int->Bool}{ahi en:Int} (hen:en<=bs.length):∀ (n:Nat) (i j:Int),0<=j->∀ t:Int,0<=t->t < runE as bs jk ahi en n i j->MN as bs jk (i + t) (j + t)
 | 0,i,j,_,t,h0,h1=>by simp[runE]at h1;lia
 | n + 1,i,j,hj,t,h0,h1=>by
  rw[runE_s]at h1;split at h1
  .rename_i hc;by_cases ht:t=0
   .subst ht;rw[Int.add_zero,Int.add_zero];exact ⟨hj,by (exact F12 0x7387787073780 0x111 rfl hen hc.2.1),hc.2.2.1,hc.2.2.2⟩
   .have:=Zi4 (as:=as) (bs:=bs) (jk:=jk) (ahi:=ahi) (en:=en) hen n (i + 1) (j + 1) (by (exact F01 0x67004870480 0x11 rfl hj)) (t - 1) (by (exact F01 0x67104870480047920 0x101011 rfl ht h0)) (by (exact F11 0x7367176703770 0x11 rfl h1));rw[show i + 1 + (t - 1)=i + t by lia,show j + 1 + (t - 1)=j + t by lia]at this;exact this
  .lia
theorem Zi5 {as bs:List Int}{jk:Int->Bool}{ahi en:Int}:∀ (n:Nat) (i j k:Int),k<=n->i + k<=ahi->j + k<=en->(∀ t,0<=t->t < k->MN as bs jk (i + t) (j + t))->k<=runE as bs jk ahi en n i j
 | 0,i,j,k,h,_,_,_=>by simp only[runE];omega
 | n + 1,i,j,k,h,h1,h2,h3=>by
  by_cases hk:k<=0
  ·(exact F11 0x737804780 0x11 rfl hk)
  .have h0:=h3 0 (by (exact Int.natCast_nonneg _)) (by (exact Int.not_le.mp ‹_›));rw[Int.add_zero,Int.add_zero]at h0;rw[runE_s,if_pos ⟨by (exact F03 0x977048820987080 0x111 rfl h1 hk),by lia,h0.2.2.1,h0.2.2.2⟩];have:=Zi5 (as:=as) (bs:=bs) (jk:=jk) (ahi:=ahi) (en:=en) n (i + 1) (j + 1) (k - 1) (by (exact F11 0x7367186703780 0x11 rfl h)) (by (exact F03 0x968167008987080 0x11 rfl h1)) (by lia) λt a b=>by have:=h3 (t + 1) (by lia) (by (exact F02 0x86707681770 0x11 rfl b));rw[show i + 1 + t=i + (t + 1) by (exact F02 0x68070867009 0x11 rfl),show j + 1 + t=j + (t + 1) by lia];exact this
   (exact F11 0x6703787367180 0x11 rfl this)
noncomputable def LexLe (x y:Tri):Prop:=x.1 < y.1\/x.1=y.1/\(x.2.1 < y.2.1\/x.2.1=y.2.1/\x.2.2<=y.2.2)
theorem Zpe {x y:Tri} (h:lexB x y=true):LexLe x y:=by
 unfold lexB at h;unfold LexLe;split at h
 .rename_i e;split at h
  .rename_i e2;have:=of_decide_eq_true h;lia
  .have:=of_decide_eq_true h;lia
 .have:=of_decide_eq_true h;omega
theorem Zpf {x y:Tri} (h:lexB x y=false):LexLe y x:=by
 unfold lexB at h;unfold LexLe;split at h
 .rename_i e;split at h
  .rename_i e2;have:=of_decide_eq_false h;lia
  .rename_i e2;have:=of_decide_eq_false h;lia
 .rename_i e;have:=of_decide_eq_false h;lia
theorem LexLe.trans {x y z:Tri} (h:LexLe x y) (h':LexLe y z):LexLe x z:=by unfold LexLe at *;lia
theorem LexLe.refl (x:Tri):LexLe x x:=by unfold LexLe;lia
structure AI (as bs:List Int) (jk:Int->Bool) (alo ahi blo en:Int) (D:Int->Int->Prop) (b:Tri):Prop where
 own:b=(0,alo,blo)\/D b.2.1 b.2.2/\b.1 = -(runA as bs jk ahi en b.2.1 b.2.2:Int)
 le:∀ r j,D r j->LexLe b (-(runA as bs jk ahi en r j:Int),r,j)
 z:LexLe b (0,alo,blo)
theorem AI.congr {as bs:List Int}{jk:Int->Bool}{alo ahi blo en:Int}{D D':Int->Int->Prop}{b:Tri} (h:AI as bs jk alo ahi blo en D b) (e:∀ r j,D' r j ↔ D r j):AI as bs jk alo ahi blo en D' b:=by
 have:D'=D:=by funext r j;exact propext (e r j)
 rw[this];exact h
theorem AI.st {as bs:List Int}{jk:Int->Bool}{alo ahi blo en i j:Int}{D:Int->Int->Prop}{b:Tri} (h:AI as bs jk alo ahi blo en D b):AI as bs jk alo ahi blo en (λr q=>D r q\/r=i/\q=j) (stB as bs jk ahi en i j b):=by
 unfold stB;cases hl:lexB (-(runA as bs jk ahi en i j:Int),i,j) b with
 | true=>
  have hl':=Zpe hl;rw[if_pos rfl];refine ⟨.inr ⟨.inr ⟨rfl,rfl⟩,rfl⟩,?_,hl'.trans h.z⟩;rintro r q (hd | ⟨rfl,rfl⟩)
  .exact hl'.trans (h.le r q hd)
  .exact .refl _
 | false=>
  rw[if_neg (by simp)];refine ⟨h.own.imp id λ⟨a,b⟩=>⟨.inl a,b⟩,?_,h.z⟩;rintro r q (hd | ⟨rfl,rfl⟩)
  .exact h.le r q hd
  .exact Zpf hl
theorem AI.row {as bs:List Int}{jk:Int->Bool}{alo ahi blo en i:Int}{D:Int->Int->Prop}{b:Tri} (h:AI as bs jk alo ahi blo en D b):∀ n:Nat,AI as bs jk alo ahi blo en (λr q=>D r q\/r=i/\blo<=q/\q < blo + n) (rowB as bs jk ahi blo en i n b)
 | 0=>h.congr λr q=>⟨λe=>e.elim id λe=>by lia,.inl⟩
 | n + 1=>by
  rw[Zi6];refine (AI.row h n).st.congr λr q=>⟨?_,?_⟩
  .rintro (a | ⟨a,b,c⟩)
   .exact .inl (.inl a)
   .by_cases hq:q < blo + n
    .exact .inl (.inr ⟨a,b,hq⟩)
    .exact .inr ⟨a,by (exact F12 0x73807973807720670380770 0x101110 rfl c hq)⟩
  .rintro ((a | ⟨a,b,c⟩) | ⟨a,b⟩)
   .exact .inl a
   .exact .inr ⟨a,b,by (exact F12 0x670380777380770 0x11 rfl c)⟩
   .exact .inr ⟨a,by (exact F12 0x7887380790 0x110 rfl b),by (exact F12 0x670380777380790 0x101 rfl b)⟩
theorem AI.all {as bs:List Int}{jk:Int->Bool}{alo ahi blo en:Int}:∀ n:Nat,AI as bs jk alo ahi blo en (λr q=>alo<=r/\r < alo + n/\blo<=q/\q < en) (allB as bs jk alo ahi blo en n)
 | 0=>⟨.inl rfl,λr j h=>by omega,.refl _⟩
 | n + 1=>by
  rw[Zkf];refine (AI.all n).row (i:=alo + n) (en - blo).toNat |>.congr λr q=>⟨λh=>?_,?_⟩
  .by_cases hr:r < alo + n
   .exact .inl ⟨h.1,hr,h.2.2⟩
   .exact .inr ⟨by (exact F12 0x73807973807720670380770 0x101110 rfl h.2.1 hr),by (exact F02 0x8788780 0x11 rfl h.2.2.1),by (exact F03 0x737087987087807913a 0x111011001 rfl h.2.2.1 h.2.2.2)⟩
  .rintro (h | h)
   .exact ⟨h.1,by (exact F12 0x670380777380770 0x11 rfl h.2.1),h.2.2⟩
   .exact ⟨by (exact F12 0x7887380790 0x110 rfl h.1),by (exact F12 0x670380777380790 0x101 rfl h.1),by (exact F02 0x8788780 0x11 rfl h.2.1),by (exact F03 0x987737087087807913a 0x110111010 rfl h.2.1 h.2.2)⟩
theorem Zf6 {as bs:List Int}{jk:Int->Bool}{alo ahi blo bhi en:Int} (hen:en<=bs.length) (hen2:en<=bhi) (hen3:bhi<=en\/(bs.length:Int)<=en) (hb0 : 0<=blo) :
  Longest (MN as bs jk) alo ahi blo bhi ((allB as bs jk alo ahi blo en (ahi - alo).toNat).2.1,(allB as bs jk alo ahi blo en (ahi - alo).toNat).2.2,-(allB as bs jk alo ahi blo en (ahi - alo).toNat).1):=by
 have H:=AI.all (as:=as) (bs:=bs) (jk:=jk) (alo:=alo) (ahi:=ahi) (blo:=blo) (en:=en) (ahi - alo).toNat
 generalize allB as bs jk alo ahi blo en (ahi - alo).toNat=b at H;obtain ⟨b1,b2,b3⟩:=b;obtain ⟨own,le,z⟩:=H;simp only[Prod.mk.injEq]at own;have hb1:b1<=0:=by unfold LexLe at z;simp only at z;lia
 refine ⟨by show 0<=-b1;lia,λe=>?_,λhk=>?_,λi j k c=>?_⟩
 .have e' : -b1=0:=e;have:b2=alo/\b3=blo:=by
   rcases own with ⟨_,h2,h3⟩ | ⟨h,_⟩
   .exact ⟨h2,h3⟩
   .unfold LexLe at z;simp only at z;lia
  show (b2,b3,-b1)=(alo,blo,0);rw[this.1,this.2,e']
 .have hk' : 0 < -b1:=hk;rcases own with ⟨h1,_⟩ | ⟨h,e⟩
  .lia
  .have hr:=Zgj (as:=as) (bs:=bs) (jk:=jk) (ahi:=ahi) (en:=en) (ahi - b2).toNat b2 b3 (by (exact F03 0x988737087087807913a 0x110111010 rfl h.1 h.2.1)) (by (exact F02 0x8788770 0x11 rfl h.2.2.2));have e' : -b1=(runE as bs jk ahi en (ahi - b2).toNat b2 b3:Int):=by rw[e];unfold runA;lia
   refine ⟨h.1,by show b2 + -b1<=ahi;(exact F13 0x89708739908737080 0x1011 rfl hr.1 e'),h.2.2.1,by show b3 + -b1<=bhi;(exact fk [_] [_,_,_,_] 0x8a90873a9077390808780 0x10111 rfl hen2 hr.2 e'),by (exact Int.le_of_lt ‹_›),λt h0 h1=>?_⟩;have h1':t < -b1:=h1;exact Zi4 (as:=as) (bs:=bs) (jk:=jk) (ahi:=ahi) (en:=en) hen (ahi - b2).toNat b2 b3 (by (exact F02 0x8048878070480 0x111 rfl hb0 h.2.2.1)) t h0 (by (exact F12 0x7387787073790 0x1101 rfl e' h1))
 .show k<=-b1/\(k = -b1->0 < k->b2 < i\/b2=i/\b3<=j);by_cases hk : 0 < k
  .have hc:=c.a0;have hc1:=c.a1;have hc2:=c.b0;have hc3:=c.b1;have hj:j + k<=en:=by
    rcases hen3 with h | h
    ·(exact Int.le_trans ‹_› ‹_›)
    .have:=(c.eq (k - 1) (by (exact F01 0x67104870470 0x11 rfl hk)) (by lia)).2.1;(exact F13 0x7980873691807077380 0x111 rfl h this)
   have l:=le i j ⟨hc,by (exact F04 0x738097a790809880704708a13a 0x11110110101 rfl hk hc hc1),hc2,by (exact F03 0x98797808070470 0x111 rfl hk hj)⟩;have g:=Zi5 (as:=as) (bs:=bs) (jk:=jk) (ahi:=ahi) (en:=en) (ahi - i).toNat i j k (by (exact F03 0x7378978080704708913a 0x111011001 rfl hk hc1)) (by omega) hj c.eq;unfold LexLe at l;simp only[runA]at l;constructor
   .lia
   .intro e _;lia
  .exact ⟨by lia,λ_ h=>absurd h hk⟩
theorem Longest.uniq {M:Int->Int->Prop}{alo ahi blo bhi:Int}{b b':Best} (h:Longest M alo ahi blo bhi b) (h':Longest M alo ahi blo bhi b'):b=b':=by
 obtain ⟨i,j,k⟩:=b;obtain ⟨i',j',k'⟩:=b';have hk:=h.k0;have hk':=h'.k0;simp only at hk hk';by_cases h0 : 0 < k
 .have c:=h.com h0;have m:=h'.max _ _ _ c;by_cases h0' : 0 < k'
  .have c':=h'.com h0';have m':=h.max _ _ _ c';simp only at m m';have e:k=k':=by (exact F02 0x87978808780 0x101110 rfl m.1 m'.1)
   subst e;have a:=m.2 rfl h0;have a':=m'.2 rfl h0;have e1:i=i':=by lia
   have e2:j=j':=by lia
   rw[e1,e2]
  .simp only at m;omega
 .by_cases h0' : 0 < k'
  .have m':=h.max _ _ _ (h'.com h0');simp only at m';omega
  .rw [h.zero (by show k=0;(exact F01 0x47970472070480 0x110101 rfl hk h0)),h'.zero (by show k'=0;lia)]
open PySem
theorem Zrk {as bs js:List Int}{p q:Int}:MJ as (JJ bs (jkB bs js)) p q ↔ MN as bs js.contains p q:=by
 have key:MJ as (JJ bs (jkB bs js)) p q ↔ jkB bs js (as.getD p.toNat 0)=false/\MJ as (idxN bs) p q:=by unfold MJ JJ;cases jkB bs js (as.getD p.toNat 0) <;> simp
 rw[key,Zoc];unfold MN;constructor
 .rintro ⟨h,h0,h1,h2⟩;refine ⟨h0,h1,h2.symm,?_⟩;have hm:bs.contains (as.getD p.toNat 0)=true:=by rw[List.contains_iff_mem,<-h2,List.getD_eq_getElem?_getD,List.getElem?_eq_getElem (by (exact Zgh ‹_› ‹_›))];exact List.getElem_mem _
  unfold jkB at h;rw[hm,Bool.and_true]at h;exact h
 .rintro ⟨h0,h1,h2,h3⟩;refine ⟨by unfold jkB;rw[h3];rfl,h0,h1,h2.symm⟩
theorem Zmy {bs js:List Int}{q:Int} (h0 : 0<=q) (h1:q < bs.length):jkB bs js (bs.getD q.toNat 0)=js.contains (bs.getD q.toNat 0):=by
 have hm:bs.contains (bs.getD q.toNat 0)=true:=by rw[List.contains_iff_mem,List.getD_eq_getElem?_getD,List.getElem?_eq_getElem (by (exact Zgh ‹_› ‹_›))];exact List.getElem_mem _
 unfold jkB;rw[hm,Bool.and_true]
theorem Zc2 {xs:List Int}{a b:Int} (h:b<=a):seg xs a b=[]:=by unfold seg;rw[show (b - a).toNat=0 by (exact F02 0x47687808713a 0x1001100011101000 rfl h)];rfl
theorem Zg7 {xs:List Int}{a b:Int} (h0 : 0<=a) (h:a < b) (h1:b<=xs.length):seg xs a b=xs.getD a.toNat 0 :: seg xs (a + 1) b:=by unfold seg;rw[show (b - a).toNat=(b - (a + 1)).toNat + 1 by (exact F02 0x670868770670813a7813a 0x100001010010100001010010101010110101100110101001 rfl h),List.drop_eq_getElem_cons (show a.toNat < xs.length by (exact F12 0x8748388087707048073a 0x111101111010 rfl h0 h h1)),List.take_succ_cons,show (a + 1).toNat=a.toNat + 1 by (exact F01 0x670867048073a6703a 0x100001010010100001010010101010110101100110101001 rfl h0),List.getD_eq_getElem?_getD,List.getElem?_eq_getElem (show a.toNat < xs.length by lia)];rfl
theorem Zg6 {xs:List Int}{a b:Int} (h0 : 0<=a) (h:a < b) (h1:b<=xs.length):(seg xs a b).reverse=xs.getD (b - 1).toNat 0 :: (seg xs a (b - 1)).reverse:=by
 have e:seg xs a b=seg xs a (b - 1) ++ [xs.getD (b - 1).toNat 0]:=by unfold seg;rw[show (b - a).toNat=(b - 1 - a).toNat + 1 by (exact F02 0x670868770768113a7813a 0x100001010010100001010010101010110101100110101001 rfl h),List.take_add_one];congr 1;rw[List.getElem?_drop,show a.toNat + (b - 1 - a).toNat=(b - 1).toNat by (exact F02 0x789068770704806813a768113a73a 0x100000101100010000100000101100101010101101001100010000101011001100100110110100110100010000110010110100101001100101010100010000100011010100100101 rfl h0 h),List.getD_eq_getElem?_getD,List.getElem?_eq_getElem (show (b - 1).toNat < xs.length by (exact F12 0x874838808770704806813a 0x111101110010 rfl h0 h h1))];rfl
 rw[e,List.reverse_append];rfl
theorem Zp0 {as bs js:List Int}{p q:Int} (h0 : 0<=q) (h1:q < bs.length):cnd as bs (jkB bs js) true p q=true ↔ js.contains (bs.getD q.toNat 0)=true/\as.getD p.toNat 0=bs.getD q.toNat 0:=by unfold cnd;rw[Zmy h0 h1,Bool.and_eq_true,beq_iff_eq,beq_iff_eq]
theorem Zp1 {as bs js:List Int}{p q:Int} (h0 : 0<=q) (h1:q < bs.length):cnd as bs (jkB bs js) false p q=true ↔ MN as bs js.contains p q:=by
 unfold cnd MN;rw[Zmy h0 h1,Bool.and_eq_true,beq_iff_eq,beq_iff_eq];constructor
 .rintro ⟨a,b⟩;exact ⟨h0,h1,b,by rw[b];exact a⟩
 .rintro ⟨_,_,b,a⟩;exact ⟨by rw[<-b];exact a,b⟩
theorem Zfz {as bs js:List Int}{alo blo:Int} (ha : 0<=alo) (hb : 0<=blo):∀ (n:Nat) (i j k:Int) (late:Bool),n=(i - alo).toNat->i<=as.length->alo<=i->blo<=j->j<=bs.length->(late=false->alo < i->blo < j->¬ MN as bs js.contains (i - 1) (j - 1)) ->
  down (cnd as bs (jkB bs js) true) alo blo n (i,j,k)=(i - (grow js.contains (seg as alo i).reverse (seg bs blo j).reverse late:Int),j - (grow js.contains (seg as alo i).reverse (seg bs blo j).reverse late:Int),k + (grow js.contains (seg as alo i).reverse (seg bs blo j).reverse late:Int))
 | 0,i,j,k,late,hn,h1,h2,h3,h4,h5=>by rw[Zc2 (show i<=alo by (exact F02 0x878704608713a 0x1001011001 rfl hn)),List.reverse_nil,grow_l];simp only[down,Int.natCast_zero,Int.sub_zero,Int.add_zero]
 | n + 1,i,j,k,late,hn,h1,h2,h3,h4,h5=>by
  rw[Zdx];have hi:alo < i:=by (exact F12 0x8777680607813a 0x10110110 rfl hn)
  by_cases hj:blo < j
  case neg=>
   rw[if_neg (λh=>hj h.2.1),Zc2 (show j<=blo by (exact Int.not_lt.mp ‹_›)),List.reverse_nil,grow_r];simp only[Int.natCast_zero,Int.sub_zero,Int.add_zero]
  rw[Zg6 ha hi h1,Zg6 hb hj h4,Zjr];have ct:=Zp0 (as:=as) (bs:=bs) (js:=js) (p:=i - 1) (q:=j - 1) (by (exact F02 0x681048877070480 0x111 rfl hb hj)) (by (exact F11 0x73671773780 0x11 rfl h4));by_cases hc:cnd as bs (jkB bs js) true (i - 1) (j - 1)=true
  .obtain ⟨c1,c2⟩:=ct.mp hc;rw[if_pos ⟨hi,hj,hc⟩,if_pos (by rw[c2,c1];simp)];have:=Zfz (as:=as) (bs:=bs) (js:=js) ha hb n (i - 1) (j - 1) (k + 1) (js.contains (as.getD (i - 1).toNat 0)) (by (exact F12 0x89687707690607813a768113a 0x1001010010000001100110101000000100010100010010001001100110100110 rfl hn hi)) (by (exact F11 0x73671873780 0x11 rfl h1)) (by (exact F02 0x681788770 0x11 rfl hi)) (by lia) (by lia) (λh=>by rw[c2,c1]at h;cases h);rw[this];simp only[Prod.mk.injEq];refine ⟨?_,?_,?_⟩ <;> push_cast <;> (first | exact F11 0x6730717367119 0x11 rfl | exact F11 0x6730707367009 0x11 rfl)
  .rw [if_neg (λh=>hc h.2.2),if_neg]
   .simp only [Int.natCast_zero,Int.sub_zero,Int.add_zero]
   .intro h;rw[Bool.and_eq_true,beq_iff_eq,Bool.or_eq_true]at h;obtain ⟨e,h⟩:=h;cases hjk:js.contains (as.getD (i - 1).toNat 0) with
    | true=>exact hc (ct.mpr ⟨by rw[<-e];exact hjk,e⟩)
    | false=>
     rw[hjk]at h;have hl:late=false:=by simpa using h
     exact h5 hl hi hj ⟨by lia,by lia,e,hjk⟩
theorem Ziv {as bs js:List Int}{ahi bhi en:Int} (hal:ahi<=as.length) (e1:en<=bs.length) (e2:en<=bhi) (e3:bhi<=en\/(bs.length:Int)<=en):∀ (n:Nat) (x y z p q:Int) (late:Bool),n=(ahi - p).toNat->x + z=p->y + z=q->0<=p->0<=q->q<=en->(late=false->p < ahi->q < en->¬ MN as bs js.contains p q) ->
  upX (cnd as bs (jkB bs js) true) ahi bhi bs.length n (x,y,z)=if q + (grow js.contains (seg as p ahi) (seg bs q en) late:Int)=bs.length/\(bs.length:Int) < bhi/\p + (grow js.contains (seg as p ahi) (seg bs q en) late:Int) < ahi then none else some (x,y,z + (grow js.contains (seg as p ahi) (seg bs q en) late:Int))
 | 0,x,y,z,p,q,late,hn,h1,h2,h3,h4,h5,h6=>by rw[Zc2 (show ahi<=p by (exact F02 0x878704608713a 0x1001011001 rfl hn)),grow_l,if_neg (by lia)];simp only[upX,Int.natCast_zero,Int.add_zero]
 | n + 1,x,y,z,p,q,late,hn,h1,h2,h3,h4,h5,h6=>by
  rw[upX_s];have hp:p < ahi:=by (exact F12 0x8777680607813a 0x10110110 rfl hn)
  have g1:(x,y,z).1 + (x,y,z).2.2=p:=h1;have g2:(x,y,z).2.1 + (x,y,z).2.2=q:=h2;rw[g1,g2];by_cases hq:q < bhi
  case neg=>
   rw[if_neg (λh=>hq h.2),Zc2 (show en<=q by (exact F03 0x978897208780 0x111 rfl e2 hq)),grow_r,if_neg (by lia)];simp only[Int.natCast_zero,Int.add_zero]
  rw[if_pos ⟨hp,hq⟩];by_cases hl:(bs.length:Int)<=q
  .rw [if_pos hl,Zc2 (show en<=q by (exact F12 0x8788738073780 0x111 rfl e1 hl)),grow_r,if_pos (by lia)]
  rw[if_neg hl];have hqe:q < en:=by (exact F13 0x8979738207970873887810 0x11011011 rfl e3 hq hl)
  rw[Zg7 h3 hp hal,Zg7 h4 hqe e1,Zjr];have ct:=Zp0 (as:=as) (bs:=bs) (js:=js) (p:=p) (q:=q) (by omega) (by (exact Int.lt_of_lt_of_le ‹_› ‹_›));by_cases hc:cnd as bs (jkB bs js) true p q=true
  .obtain ⟨c1,c2⟩:=ct.mp hc;rw[if_pos hc,if_pos (show (as.getD p.toNat 0 == bs.getD q.toNat 0 && (js.contains (as.getD p.toNat 0) || !late))=true by rw[c2,c1];simp)];have:=Ziv (as:=as) (bs:=bs) (js:=js) hal e1 e2 e3 n x y (z + 1) (p + 1) (q + 1) (js.contains (as.getD p.toNat 0)) (by (exact F12 0x89687707690607813a670813a 0x100100001001000100110101000000100010100010010001001100110100110 rfl hn hp)) (by (exact F03 0x690680709987090 0x101110 rfl h1)) (by lia) (by (exact F01 0x67004870480 0x11 rfl h3)) (by lia) ‹_› (λh=>by rw[c2,c1]at h;cases h);rw[this];generalize grow js.contains (seg as (p + 1) ahi) (seg bs (q + 1) en) (js.contains (as.getD p.toNat 0))=g;by_cases hx:q + 1 + (g:Int)=bs.length/\(bs.length:Int) < bhi/\p + 1 + (g:Int) < ahi
   .rw [if_pos hx,if_pos (by push_cast;lia)]
   .rw [if_neg hx,if_neg (by push_cast;lia)];simp only[Option.some.injEq,Prod.mk.injEq,true_and]
    push_cast;lia
  .rw [if_neg hc];have h0:(as.getD p.toNat 0 == bs.getD q.toNat 0 && (js.contains (as.getD p.toNat 0) || !late))≠true:=by
    intro h;rw[Bool.and_eq_true,beq_iff_eq,Bool.or_eq_true]at h;obtain ⟨e,h⟩:=h;cases hjk:js.contains (as.getD p.toNat 0) with
    | true=>exact hc (ct.mpr ⟨by rw[<-e];exact hjk,e⟩)
    | false=>
     rw[hjk]at h;have hl:late=false:=by simpa using h
     exact h6 hl hp hqe ⟨by omega,by (exact Int.lt_of_lt_of_le ‹_› ‹_›),e,hjk⟩
   rw[if_neg h0,if_neg (by lia)];simp only[Int.natCast_zero,Int.add_zero]
noncomputable def Zne (o:Option Best):AV:=match o with
 | none=>.str (S "IndexError")
 | some b=>.tup [.int b.1,.int b.2.1,.int b.2.2]
theorem Longest.congrM {M M':Int->Int->Prop}{alo ahi blo bhi:Int}{b:Best} (h:Longest M alo ahi blo bhi b) (e:∀ p q,M p q ↔ M' p q):Longest M' alo ahi blo bhi b:=by
 have:M=M':=by funext p q;exact propext (e p q)
 rw[<-this];exact h
theorem downAll_z {c:Int->Int->Bool}{alo blo:Int}{k:Int}:Za9 c alo blo (alo,blo,k)=(alo,blo,k):=by unfold Za9;rw[show ((alo,blo,k):Best).1=alo from rfl,Int.sub_self];rfl
theorem Znd {a b c a' b' c':Int} (h:a=a'/\b=b'/\c=c'):AV.tup [.int a,.int b,.int c] = .tup [.int a',.int b',.int c']:=by obtain ⟨rfl,rfl,rfl⟩:=h;rfl
theorem Zk6 {as bs js:List Int}{alo ahi blo bhi:Int} (ha : 0<=alo) (hb : 0<=blo) (hal:alo < ahi->ahi<=as.length) :
  Zne (flmX as bs (jkB bs js) alo ahi blo bhi)=dueV as bs js.contains alo ahi blo bhi:=by
 have Lo:=(Zdf (as:=as) (J:=JJ bs (jkB bs js)) (alo:=alo) (ahi:=ahi) (blo:=blo) (bhi:=bhi) (Zna bs _)).congrM (λp q=>Zrk);unfold flmX dueV;generalize (outS as (JJ bs (jkB bs js)) alo blo bhi (ahi - alo).toNat).2=b0 at Lo
 have zero:(∀ i j k,Common (MN as bs js.contains) alo ahi blo bhi i j k->¬ 0 < k)->b0=(alo,blo,0):=λh=>Lo.zero (by
  have:=Lo.k0;by_cases hk : 0 < b0.2.2
  .exact absurd hk (h _ _ _ (Lo.com hk))
  ·(exact F01 0x47970472070480 0x110101 rfl this hk))
 by_cases c1:alo>=ahi\/blo>=bhi
 .rw [if_pos c1,zero (λi j k c hk=>by have:=c.a0;have:=c.a1;have:=c.b0;have:=c.b1;(exact fk [] [_,_,_,_,_,_,_] 0x39bd080da807bc080c880b0470a9887810 0x110011001111 rfl c1 hk ‹_› ‹_› ‹_› this)),downAll_z];have u:∀ cc:Int->Int->Bool,Zbl cc ahi bhi bs.length (alo,blo,0)=some (alo,blo,0):=λcc=>Zhy (by show ¬ (alo + 0 < ahi/\blo + 0 < bhi);lia) _;rw[u,Option.bind_some,downAll_z,u];rfl
 rw[if_neg c1];have hal':ahi<=as.length:=hal (by (exact F04 0x787a98878120 0x101 rfl c1));by_cases c2:blo > bs.length
 .rw [if_pos c2,zero (λi j k c hk=>by have:=c.b0;have:=(c.eq 0 (by (exact Int.natCast_nonneg _)) hk).2.1;(exact F12 0x373048070878077370 0x111 rfl c2 ‹_› this)),downAll_z];have:Zbl (cnd as bs (jkB bs js) false) ahi bhi bs.length (alo,blo,0)=none:=Zk3 (by show alo + 0 < ahi;(exact F04 0x704807a98878120 0x101 rfl c1)) (by show blo + 0 < bhi;(exact F04 0x904a07a98878120 0x110 rfl c1)) (by show (bs.length:Int)<=blo + 0;(exact F11 0x47073877370 0x11 rfl c2));rw[this];rfl
 rw[if_neg c2];generalize hen:(if (bs.length:Int) < bhi then (bs.length:Int) else bhi)=en;have e1:en<=bs.length:=by rw[<-hen];split <;> (first | exact F10 0x73738 0x1 rfl | exact F11 0x7378773720 0x11 rfl ‹_›)
 have e2:en<=bhi:=by rw[<-hen];split <;> (first | exact F11 0x773877370 0x11 rfl ‹_› | exact F01 0x778 0x1 rfl)
 have e3:bhi<=en\/(bs.length:Int)<=en:=by rw[<-hen];split <;> (first | exact F11 0x7373873781 0x10 rfl | exact F11 0x77387781 0x1 rfl)
 have e4:blo<=en:=by rw[<-hen];split <;> (first | exact F11 0x7378773720 0x11 rfl c2 | exact F04 0x9a8a98878120 0x110 rfl c1)
 have La:=Zf6 (as:=as) (bs:=bs) (jk:=js.contains) (alo:=alo) (ahi:=ahi) e1 e2 e3 hb;have bd:BD alo ahi blo en (allB as bs js.contains alo ahi blo en (ahi - alo).toNat):=BD.all e4 _ (by (exact F04 0x773808a988781208713a 0x11010010 rfl c1));dsimp only;generalize allB as bs js.contains alo ahi blo en (ahi - alo).toNat=b at La bd ⊢;obtain ⟨b1,i,j⟩:=b;have eb:=Lo.uniq La;subst eb;simp only at La;obtain ⟨s0,a0,a1,d0,d1⟩:=bd;simp only at s0 a0 a1 d0 d1 ⊢;generalize hk : -b1=k at *;have k0 : 0<=k:=La.k0;have nolong:∀ i' j' k',Common (MN as bs js.contains) alo ahi blo bhi i' j' k'->k'<=k:=λi' j' k' c=>(La.max _ _ _ c).1;have com:∀ t,0<=t->t < k->MN as bs js.contains (i + t) (j + t):=λt h0 h1=>(La.com (show 0 < k by (exact Int.lt_of_le_of_lt ‹_› ‹_›))).eq t h0 h1;have hkz:k=0->i=alo/\j=blo:=λe=>by have:=La.zero e;simp only[Prod.mk.injEq]at this;exact ⟨this.1,this.2.1⟩
 have left:alo < i->blo < j->¬ MN as bs js.contains (i - 1) (j - 1):=λh1 h2 hm=>by
  have:=nolong (i - 1) (j - 1) (k + 1) ⟨by (exact F02 0x681788770 0x11 rfl h1),by lia,by lia,by lia,by (exact F01 0x67004870480 0x11 rfl k0),λt h0 h3=>by
   by_cases ht:t=0
   .rw [ht,Int.add_zero,Int.add_zero];exact hm
   .have:=com (t - 1) (by (exact F01 0x67104870480047920 0x101011 rfl ht h0)) (by (exact F02 0x86717680770 0x11 rfl h3))
    rw[show i - 1 + t=i + (t - 1) by (exact F02 0x68170867109 0x11 rfl),show j - 1 + t=j + (t - 1) by lia];exact this⟩
  lia
 have right:i + k < ahi->j + k < en->¬ MN as bs js.contains (i + k) (j + k):=λh1 h2 hm=>by
  have:=nolong i j (k + 1) ⟨by omega,by (exact F03 0x9680708987070 0x11 rfl h1),by omega,by (exact F04 0x86a09087a90708780 0x111 rfl e2 h2),by lia,λt h0 h3=>by
   by_cases ht:t=k
   .rw [ht];exact hm
   .exact com t h0 (by (exact F02 0x87768077087920 0x11101 rfl ht h3))⟩
  lia
 have dn:Za9 (cnd as bs (jkB bs js) false) alo blo (i,j,k)=(i,j,k):=by
  unfold Za9;rw[show ((i,j,k):Best).1=i from rfl];generalize (i - alo).toNat=n;cases n with
  | zero=>rfl
  | succ n=>
   rw[Zdx,if_neg];rintro ⟨h1,h2,h3⟩;exact left h1 h2 ((Zp1 (by show 0<=j - 1;have h2':j > blo:=h2;(exact F02 0x681048877070480 0x111 rfl hb h2)) (by show j - 1 < _;(exact F13 0x7369177891800488073780 0x1111 rfl e1 s0 d1))).mp h3)
 rw[dn];by_cases hx:i + k < ahi/\j + k < bhi/\(bs.length:Int)<=j + k
 .have:Zbl (cnd as bs (jkB bs js) false) ahi bhi bs.length (i,j,k)=none:=Zk3 hx.1 hx.2.1 hx.2.2;rw[this,Zc2 (xs:=bs) (show en<=j + k by (exact F13 0x98078980738073780 0x111 rfl e1 hx.2.2)),grow_r,if_pos (by push_cast;lia)];rfl
 have up1:Zbl (cnd as bs (jkB bs js) false) ahi bhi bs.length (i,j,k)=some (i,j,k):=by
  by_cases h1:i + k < ahi/\j + k < bhi
  .have hl:¬ (bs.length:Int)<=j + k:=λh=>hx ⟨h1.1,h1.2,h⟩;exact Ziw (λh=>right h1.1 (by (exact fk [_] [_,_,_,_] 0x8a907a90738207a9070873887810 0x11011011 rfl e3 h1.2 hl)) ((Zp1 (by (exact F03 0x98004890480878070480 0x1111 rfl hb d0 k0)) (by (exact Int.not_le.mp ‹_›))).mp h)) hl _
  .exact Zhy h1 _
 rw[up1,Option.bind_some];have dg:Za9 (cnd as bs (jkB bs js) true) alo blo (i,j,k)=_:=Zfz (as:=as) (bs:=bs) (js:=js) ha hb (i - alo).toNat i j k false rfl (by (exact F13 0x73987891800488073780 0x1111 rfl hal' s0 a1)) a0 d0 (by (exact F13 0x73987891800488073780 0x1111 rfl e1 s0 d1)) (λ_=>left);rw[dg];generalize grow js.contains (seg as alo i).reverse (seg bs blo j).reverse false=g1;have ug:=Ziv (as:=as) (bs:=bs) (js:=js) (ahi:=ahi) (bhi:=bhi) (en:=en) hal' e1 e2 e3 (ahi - (i + k)).toNat (i - g1) (j - g1) (k + g1) (i + k) (j + k) false rfl (by lia) (by lia) (by lia) (by lia) (by lia) (λ_=>right);have ug':Zbl (cnd as bs (jkB bs js) true) ahi bhi bs.length (i - (g1:Int),j - (g1:Int),k + (g1:Int))=_:=(show upX _ ahi bhi bs.length (ahi - (i - (g1:Int) + (k + (g1:Int)))).toNat _=_ from by rw[show i - (g1:Int) + (k + (g1:Int))=i + k by lia]).trans ug;rw[ug'];generalize grow js.contains (seg as (i + k) ahi) (seg bs (j + k) en) false=g2;by_cases hc:j + k + (g2:Int)=bs.length/\(bs.length:Int) < bhi/\i + k + (g2:Int) < ahi
 .rw [if_pos hc,if_pos (by lia)];rfl
 .rw [if_neg hc,if_neg (by lia)];unfold Zne tupT;refine Znd ⟨?_,?_,?_⟩ <;> dsimp only <;> lia
section
variable {K:Frag}
end
section
variable {K:Frag}
end
section
variable {K:Frag}
theorem Zcy {M:Model}{A:Around}{c:Code}{R:Result->Shared->Prop}{s:Shared} (hq:c.quiet=true) (I:Nat->Shared->Prop)
  (turn:∀ n s,I n s->∀ (W:Fin->Shared->Prop) (X:ET),(∀ f s',R (.ok f) s'->W (.done f) s')->(∀ m s',m < n->I m s'->W (.again c) s')->wpAny M (A.under c) (M.den c) W X s)
  (n:Nat) (h:I n s):codeAny M A c R s:=codeAny_loop hq I (λn s h=>wpAny_mono (turn n s h (λfin s'=>match fin with | .done f=>R (.ok f) s' | .again c'=>c'=c/\∃ m,m < n/\I m s') (λ_ _=>False) (λ_ _ x=>x) (λm s' hm hI=>⟨rfl,m,hm,hI⟩)) (λ_ _ x=>x) λ_ _ x=>x.elim) n h
theorem Rel.forget {s:Shared} (r:Rel B hp s) {C:Addr}{o:AO} (hC:hp C=some o) {h':Heap} (hs:Heap.SameBut C s.heap h') (t:Nat):Rel B (hp.del C) { s with heap:=h',toks:=t }/\ImmLe s.heap h':=by
 have he:=hs.extBut;have le:ImmLe s.heap h':=λb ob e i=>by
  by_cases hb:b=C
  .subst hb;exact absurd i ((r.objs _ _ hC).2.notImm _ e)
  .exact he b ob hb e
 refine ⟨⟨λb ob e=>he b ob (λhb=>?_) (r.keep b ob e),λa ob e=>?_,r.os,r.bare,trivial⟩,le⟩
 .subst hb;exact noE (r.objs _ _ hC).1 e
 .by_cases ha:a=C
  .subst ha;simp[Hp.del]at e
  .rw [Hp.del_ne _ ha]at e;exact ⟨(r.objs a ob e).1,(r.objs a ob e).2.here le λo' e''=>he _ _ ha e''⟩
theorem Zdz {hp₃:Hp}{C:Addr}{m':Loc}{s':Shared} (hCe:C≠env.locals) (hc3:hp₃ C=none) (r1:Rel B ((hp₃.set C (.ns m')).set env.locals (.ns m)) s') :
  ∃ mv,s'.heap.Ns C mv/\∀ h',Heap.SameBut C s'.heap h'->Rel B (hp₃.set env.locals (.ns m)) { s' with heap:=h' }/\ImmLe s'.heap h':=by
 obtain ⟨mv,hn,_⟩:=(r1.objs C (.ns m') (Hp.snt hCe (Hp.ss ..))).2;refine ⟨mv,hn,λh' hs'=>?_⟩;have f:=r1.forget (C:=C) (o:=.ns m') (Hp.snt hCe (Hp.ss ..)) hs' s'.toks;refine ⟨f.1.sub λz o hz=>?_,f.2⟩;have hzC:z≠C:=λe=>by rw[e,Hp.sn _ _ hCe,hc3]at hz;cases hz
 rw[Hp.del_ne _ hzC];by_cases hze:z=env.locals
 .subst hze;rw[Hp.ss]at hz ⊢;exact hz
 .rw [Hp.sn _ _ hze]at hz;exact Hp.snt hze (Hp.snt hzC hz)
theorem Zng {hp₃ hp':Hp}{C it:Addr}{m':Loc} (hCe:C≠env.locals) (hc3:hp₃ C=none) (hle:Hp.Le (hp₃.set env.locals (.ns m)) (hp'.del it)) (z:Addr) (o:AO) (hz:((hp₃.set C (.ns m')).set env.locals (.ns m)) z=some o):((hp'.del it).set C (.ns m')) z=some o:=by
 by_cases hzC:z=C
 .subst hzC;rw[Hp.sn _ _ hCe,Hp.ss]at hz;rw[Hp.ss];exact hz
 .rw [Hp.sn _ _ hzC];refine hle _ _ ?_;by_cases hze:z=env.locals
  .subst hze;rw[Hp.ss]at hz ⊢;exact hz
  .rw [Hp.sn _ _ hze,Hp.sn _ _ hzC]at hz;exact Hp.snt hze hz
theorem Zi8 {s:Shared}{Q:QV} (hp₃:Hp) (acc C:Addr) (m':Loc) (s':Shared) (hCe:C≠env.locals) (hc3:hp₃ C=none) (r1:Rel B ((hp₃.set C (.ns m')).set env.locals (.ns m)) s') (le':ImmLe s.heap s'.heap) (q:Q (.ref acc) hp₃) :
  compPost (model PW W0) A E none (PV B env.locals m s.heap Q) (.ref acc) C (.ok .next) s':=by
 refine hide λ_ Z=>?_;obtain ⟨mv,hn,k⟩:=Zdz hCe hc3 r1;apply Z;clear Z;exact ⟨mv,hn,λh' hs'=>⟨.ref acc,hp₃,(k h' hs').1,le'.trans (k h' hs').2,VR_ref,q⟩⟩
theorem Zi7 {s:Shared}{y:PySem.Str}{py:Pos}{Q:QX} (hly:env.kindOf y=some .local) (hky:(env.scope.kind == .class || (env.scope.kind == .module && env.locals != env.globals))=false) (hp₃:Hp) (acc C:Addr) (m':Loc) (s':Shared) (hCe:C≠env.locals) (hc3:hp₃ C=none) (r1:Rel B ((hp₃.set C (.ns m')).set env.locals (.ns m)) s') (le':ImmLe s.heap s'.heap) (q:Q .next (upd m y (.ref acc)) hp₃) :
  compPost (model PW W0) A E (some (assign (.Name y py) env)) (λ_ s'=>wpAny (model PW W0) A (pure ():Sem Unit) (λ_ s'=>wpAny (model PW W0) A (pure Flow.next) (PX B env.locals s.heap Q) E s') E s') (.ref acc) C (.ok .next) s':=by
 refine PyProof.Rows.assign_Name (Zbm r1 (VR_ref (a:=acc)) (λs₂ r₂ le₂=>?_) hly hky);obtain ⟨mv,hn,k⟩:=Zdz hCe hc3 r₂;exact ⟨mv,hn,λh' hs'=>wP (wP ⟨.next,_,hp₃,(k h' hs').1,(le'.trans le₂).trans (k h' hs').2,rfl,q⟩)⟩
noncomputable def rgSt (a b:Int) (i:Nat) (ob:Obj):Prop:=ob={ cls:=.type "range_iterator",dict:=none,data:=.fields #[rawInt (a + i),rawInt ((b - a).toNat - i),rawInt 1],slots:=#[] }
theorem Zqq (a b:Int):rgSt a b 0 { cls:=.type "range_iterator",data:=.fields #[rawInt a,rawInt (Builtin.Range.rangeSize a b 1),rawInt 1] }:=by
 have hsz:Builtin.Range.rangeSize a b 1=((b - a).toNat:Int):=by rw[rangeSize_one];split <;> (first | exact F02 0x73781987707813a 0x110011010011010 rfl ‹_› | exact F02 0x73049877207813a 0x1000100110001110 rfl ‹_›)
 unfold rgSt;rw[hsz];simp
theorem Znl {a b:Int}{i:Nat}{ob:Obj} (h:rgSt a b i ob):¬ Imm ob:=λi'=>by obtain ⟨_,_,_,e⟩:=i';rw[h]at e;cases e
theorem Zh3 {a b:Int}{i:Nat}{it:Addr}{s':Shared}{ob:Obj} (hi:i < (b - a).toNat) (hst:rgSt a b i ob) (hg:s'.heap.get? it=some ob) (E':ET) (W:Option Value->Shared->Prop)
  (k:∀ v h' t' ob',VR s'.heap (.int (a + i)) v->h'.get? it=some ob'->rgSt a b (i + 1) ob'->Heap.SameBut it s'.heap h'->W (some v) { s' with heap:=h',toks:=t' }):wpAny (model PW W0) A (pyNext (.ref it)) W E' s':=by
 unfold rgSt at hst;subst hst;refine wpAny_pyNext_range_item (x:=a + i) (left:=(b - a).toNat - i) (step:=1) hg (by (exact F20 0x738310478740 0x11 rfl hi)) λh' hit' hs'=>?_;have e1:a + (i:Int) + 1=a + ((i + 1:Nat):Int):=by push_cast;lia
 have e2:(((b - a).toNat:Int) - i - 1)=((b - a).toNat - ((i + 1:Nat):Int)):=by push_cast;(exact F20 0x683073168373119 0x11 rfl)
 exact k _ h' _ _ VR_int hit' (by unfold rgSt;rw[e1,e2]) hs'
theorem Zh2 {a b:Int}{it:Addr}{s':Shared}{ob:Obj} (hh:A.handled=none) (hst:rgSt a b (b - a).toNat ob) (hg:s'.heap.get? it=some ob) (E':ET) (W:Option Value->Shared->Prop)
  (k:∀ h' t',Heap.ExtBut it s'.heap h'->W none { s' with heap:=h',toks:=t' }):wpAny (model PW W0) A (pyNext (.ref it)) W E' s':=by
 unfold rgSt at hst;subst hst;exact wpAny_pyNext_range_end hh (x:=a + (b - a).toNat) (left:=(b - a).toNat - (b - a).toNat) (step:=1) hg (by (exact F10 0x4737318 0x1 rfl)) λh' he=>k h' s'.toks he
theorem Hp.Le.delN {h h':Hp} (l:Hp.Le h h') {z:Addr} (hz:h z=Option.none):Hp.Le h (h'.del z):=λy o e=>by
 have hy:y≠z:=λx=>by rw[x,hz]at e;cases e
 rw[Hp.del_ne _ hy];exact l y o e
noncomputable def EMT (M:Model) (A:Around) (E:ET) (B:Shared) (env:Env) (em:Sem Unit) (m:Loc) (hp:Hp) (Q:Loc->Hp->Prop):Prop:=
 ∀ s,Rel B (hp.set env.locals (.ns m)) s->wpAny M A em (PA B env.locals s.heap Q) E s
theorem Zkw {elt:Expr}{acc:Addr}{Q:Loc->Hp->Prop} (hA:acc≠env.locals)
  (h:EV (model PW W0) A E B env elt m hp λv hp'=>∃ ys:List AV,hp' acc=some (.list ys)/\ys.length<=100000/\Q m (hp'.set acc (.list (ys ++ [v])))) :
  EMT (model PW W0) A E B env (do let _ <-call (.builtin "list.append") [.ref acc,<-eval elt env]) m hp Q:=λs r=>by
 refine wB (wpAny_mono (h s r) (λx sf y=>wB ?_) λ_ _ x=>x);refine hide λ_ Z=>?_;obtain ⟨av,hpf,rf,lef,hx,ys,hac,hlen,q⟩:=y;obtain ⟨us,nn,hl,hus⟩:=rf.at hac hA;apply Z;clear Z;have e2:us.size=ys.length:=by rw[<-Array.length_toList];exact hus.length
 refine wpAny_list_append_plain (items:=us) ⟨nn,hl⟩ (λh'' hpl hs'=>?_) (by rw[e2];have:=sizeLine_eq;(exact Nat.le_trans ‹_› (by decide)));refine hide λ_ Z=>?_;obtain ⟨n',hl'⟩:=hpl;apply Z;clear Z;have tf:=rf.turn (a:=acc) (Hp.snt hA hac) hs' (.list (ys ++ [av])) (λle=>⟨us.push x,n',hl',by rw[Array.toList_push];exact (hus.mono le).append (VRs.one (hx.mono le))⟩) sf.toks;rw[Hp.sc _ _ _ (Ne.symm hA)]at tf;exact wP ⟨m,_,tf.1,lef.trans tf.2,q⟩

structure Itr (M:Model) (A:Around) (B:Shared) (hb:Hp) (L:Addr) (n:Nat) (el:Nat->AV) (st:Nat->Obj->Prop):Prop where
 ok:∀ i ob,st i ob->¬ Imm ob/\∃ n,ob.cls = .type n/\["enumerate", "zip", "dict_itemiterator", "dict_reverseitemiterator", "odict_iterator", "itertools.zip_longest", "itertools.pairwise"].contains n=false
 next:∀ i it m₂ hp₂ s ob,i < n->Hp.Le hb hp₂->st i ob->Rel B (hp₂.set L (.ns m₂)) s->s.heap.get? it=some ob->∀ (E:ET) (W:Option Value->Shared->Prop),
   (∀ v h' t' ob',VR s.heap (el i) v->h'.get? it=some ob'->st (i + 1) ob'->Heap.SameBut it s.heap h'->W (some v) { s with heap:=h',toks:=t' })->wpAny M A (pyNext (.ref it)) W E s
 stop:∀ it m₂ hp₂ s ob,Hp.Le hb hp₂->st n ob->Rel B (hp₂.set L (.ns m₂)) s->s.heap.get? it=some ob->∀ (E:ET) (W:Option Value->Shared->Prop),
   (∀ h' t',Heap.ExtBut it s.heap h'->W none { s with heap:=h',toks:=t' })->wpAny M A (pyNext (.ref it)) W E s
noncomputable def Itb (M:Model) (A:Around) (B:Shared) (env:Env) (hk:Hp) (n:Nat) (el:Nat->AV) (o:AV) (hp:Hp):Prop:=
 ∀ m s u (E:ET) (W:ET),Rel B (hp.set env.locals (.ns m)) s->VR s.heap o u ->
  (∀ itob st,st 0 itob->itob.isFreed=false->(∀ it s' (E:ET) (W:ET),s'.heap.get? it=some itob->W (.ref it) s'->wpAny M A (pyIter (.ref it)) W E s') ->
   (∀ hb C,(∀ a xs,Lst B hk env.locals a xs->Lst B hb C a xs)->Itr M A B hb C n el st)->W (.ref s.heap.objs.size) { s with heap:=s.heap.push itob })->wpAny M A (pyIter u) W E s
theorem Itb.list {hk:Hp}{a:Addr}{xs:List AV} (hh:A.handled=none) (hl:Lst B hk env.locals a xs) (le:Hp.Le hk hp):Itb (model PW W0) A B env hk xs.length (λi=>xs.getD i .none) (.ref a) hp:=λm s u E W r hu k=>by
 simp only[VR]at hu;subst hu;refine hide λ_ Z=>?_;obtain ⟨vs,hlst,hvs⟩:=r.lst (hl.le le);apply Z;clear Z;refine wpAny_pyIter_list hlst (k _ (λi ob=>ob.cls = .type "list_iterator" /\ ob.data = .fields #[.ref a,.int i 0]) ⟨rfl,rfl⟩ rfl (λit s' E' W hg h=>wpAny_pyIter_listiter ⟨_,hg,rfl,rfl⟩ h) λhb C hC=>⟨λi ob x=>⟨(λi'=>by obtain ⟨_,_,_,e⟩:=i';rw[x.2]at e;cases e),_,x.1,rfl⟩,λi it m₂ hp₂ s' ob hi le hst r' hg E' W k=>?_,λit m₂ hp₂ s' ob le hst r' hg E' W k=>?_⟩)
 .refine hide λ_ Z=>?_;obtain ⟨vs',hl',hvs'⟩:=Rel.lst (env:={ env with locals:=C }) r' ((hC _ _ hl).le le);obtain ⟨v,hv,hxv⟩:=hvs'.get (i:=i) (x:=xs.getD i .none) (by simp[List.getD,List.getElem?_eq_getElem hi]);apply Z;clear Z;refine wpAny_pyNext_list_item (i:=i) ⟨ob,hg,hst.1,hst.2⟩ hl' (by simpa using hv) λh' hit' hs'=>?_;refine hide λ_ Z=>?_;obtain ⟨ob',hg',hc',hd'⟩:=hit';apply Z;clear Z;exact k v h' s'.toks ob' hxv hg' ⟨hc',hd'⟩ hs'
 .refine hide λ_ Z=>?_;obtain ⟨vs',hl',hvs'⟩:=Rel.lst (env:={ env with locals:=C }) r' ((hC _ _ hl).le le);apply Z;clear Z;refine wpAny_pyNext_list_end hh (i:=xs.length) ⟨ob,hg,hst.1,hst.2⟩ hl' ?_ λh' he=>k h' s'.toks he;have e:vs'.size=xs.length:=by rw[<-Array.length_toList];exact hvs'.length
  exact Array.getElem?_eq_none (by (exact F20 0x8758760 0x101 rfl e))
theorem Itb.range {hk:Hp}{rg:Addr}{ob:Obj}{a b:Int} (hh:A.handled=none) (hrg:hp rg=some (.obj ob)) (hrL:rg≠env.locals) (ro:RangeOb ob a b) (ha : -(2 ^ 62)<=a) (ha':a < 2 ^ 62) (hb : -(2 ^ 62)<=b) (hb':b < 2 ^ 62) :
  Itb (model PW W0) A B env hk (b - a).toNat (λi=>.int (a + i)) (.ref rg) hp:=λm s u E W r hu k=>by
 simp only[VR]at hu;subst hu;obtain ⟨t,u',v',rfl⟩:=ro;exact wpAny_pyIter_range (r.at hrg hrL).1 (small_one ha ha' hb hb') (k _ (rgSt a b) (Zqq a b) rfl (λit s' E' W hg h=>wpAny_pyIter_rangeiter (x:=a) (left:=Builtin.Range.rangeSize a b 1) (step:=1) hg h) λhb C hC=>⟨λi ob x=>⟨Znl x, "range_iterator",congrArg Obj.cls x,rfl⟩,λi it m₂ hp₂ s' ob hi le hst r' hg E' W k=>Zh3 hi hst hg E' W k,λit m₂ hp₂ s' ob le hst r' hg E' W k=>Zh2 hh hst hg E' W k⟩)
structure CI (hb:Hp) (acc:Addr) (o:AO) (it:Addr) (ob:Obj) (hp:Hp):Prop where
 le:Hp.Le hb hp
 acc:hp acc=some o
 it:hp it=some (.obj ob)
theorem CI.up {hb:Hp}{acc it:Addr}{o:AO}{ob:Obj}{hp':Hp} (c:CI hb acc o it ob hp) (le:Hp.Le hp hp'):CI hb acc o it ob hp':=⟨c.le.trans le,le _ _ c.acc,le _ _ c.it⟩
theorem CI.put {hb:Hp}{acc it:Addr}{o o':AO}{ob:Obj} (c:CI hb acc o it ob hp) (ha:hb acc=none) (hai:acc≠it):CI hb acc o' it ob (hp.set acc o'):=⟨c.le.set ha _,Hp.ss ..,Hp.snt (Ne.symm hai) c.it⟩
structure CTurn (PW:Program) (W0:World) (A:Around) (cmp target:Expr) (d:Nat) (ifs:List Expr) (p:Pos) (em:Sem Unit) (it acc:Addr) (env:Env):Prop where
 tn:compTurn cmp d (.ref it) (.ref acc) env=(do
   standAt p
   match <-pyNext (.ref it) with
   | none=>pure (.done .next)
   | some v=>
    letOwnedTupleGo target (.ref it) v
    assign target env v
    let mut ok:=true
    for c in ifs do
     if ok then ok <-isTrue c env (eval c env)
    if ok then em
    again (.compLoop cmp d (.ref it) (.ref acc) env))
 q:(Code.compLoop cmp d (.ref it) (.ref acc) env).quiet=true
 un:A.under (.compLoop cmp d (.ref it) (.ref acc) env)=A
 dn:(model PW W0).den (.compLoop cmp d (.ref it) (.ref acc) env)=(compTurn cmp d (.ref it) (.ref acc) env).onRaise λx=>do noteFrame x env;theTreesLotGoes x
noncomputable abbrev CInv (B:Shared) (L:Addr) (hb:Hp) (acc it:Addr) (o:Nat->AO) (J:Loc->Hp->Prop) (n:Nat) (st:Nat->Obj->Prop) (hZ:Heap) (k:Nat) (s':Shared):Prop:=
 ∃ i m₂ hp₂ ob,k=n - i/\i<=n/\CI hb acc (o i) it ob hp₂/\J m₂ hp₂/\st i ob/\Rel B (hp₂.set L (.ns m₂)) s'/\ImmLe hZ s'.heap
theorem Zkx {cmp target:Expr}{d:Nat}{ifs:List Expr}{p:Pos}{em:Sem Unit}{it acc:Addr}{n:Nat}{el:Nat->AV}{st:Nat->Obj->Prop}{o:Nat->AO}{J:Loc->Hp->Prop}{hb:Hp}{R:Result->Shared->Prop} (hL:it≠env.locals) (hit:hb it=none) (hai:acc≠it)
  (ht:CTurn PW W0 A cmp target d ifs p em it acc env) (I:Itr (model PW W0) A B hb env.locals n el st) (jset:∀ m₂ hp₂ ob,J m₂ hp₂->J m₂ (hp₂.set it (.obj ob)))
  (turn:∀ i m₂ hp₂ ob,i < n->CI hb acc (o i) it ob hp₂->J m₂ hp₂->ASG (model PW W0) A (λ_ _=>False) B env target (el i) m₂ hp₂ λm₃ hp₃=>TSTs (model PW W0) A (λ_ _=>False) B env ifs m₃ hp₃ λb hpj=>
   if b then EMT (model PW W0) A (λ_ _=>False) B env em m₃ hpj λmj hpf=>CI hb acc (o (i + 1)) it ob hpf/\J mj hpf
   else CI hb acc (o (i + 1)) it ob hpj/\J m₃ hpj) {s₀:Shared}
  (hR:∀ m' hp' s',Hp.Le hb (hp'.del it)->(hp'.del it) acc=some (o n)->J m' hp'->Rel B ((hp'.del it).set env.locals (.ns m')) s'->ImmLe s₀.heap s'.heap->R (.ok .next) s')
  {s:Shared}{ob:Obj} (h0:CI hb acc (o 0) it ob hp) (j0:J m hp) (hst:st 0 ob) (rel:Rel B (hp.set env.locals (.ns m)) s) (leZ:ImmLe s₀.heap s.heap) :
  codeAny (model PW W0) A (.compLoop cmp d (.ref it) (.ref acc) env) R s:=by
 refine Zcy ht.q (CInv B env.locals hb acc it o J n st s₀.heap) (λk s' x W X hD hG=>?_) n ⟨0,m,hp,ob,rfl,Nat.zero_le _,h0,j0,hst,rel,leZ⟩;refine hide λ_ Z=>?_;obtain ⟨i,m₂,hp₂,ob,rfl,hi,hI,hJ,hst,r,le⟩:=x;apply Z;clear Z;rw[ht.un,ht.dn];refine wpAny_noted ?_;rw[ht.tn];refine wB (wpAny_standAt (wB ?_));by_cases hlt:i < n
 .refine I.next i it m₂ hp₂ s' ob hlt hI.le hst r (r.at hI.it hL).1 _ _ λv h' t' ob' hv hg hst' hs=>?_;refine hide λ_ Z=>?_;have t:=r.turn (a:=it) (o:=.obj ob) (Hp.snt hL hI.it) hs (.obj ob') (λ_=>⟨hg,(I.ok _ _ hst').1⟩) t';rw[Hp.sc _ _ _ (Ne.symm hL)]at t;obtain ⟨nm,hcl,hno⟩:=(I.ok _ _ hst').2;apply Z;clear Z;refine wB (Zbz hg hcl hno ?_);have hturn:=turn i m₂ (hp₂.set it (.obj ob')) ob' hlt ⟨hI.le.set hit _,Hp.snt hai hI.acc,Hp.ss ..⟩ (jset _ _ _ hJ);refine wB (Zk2 (hturn _ v t.1 (hv.mono t.2)) λ_ s₃ m₃ hp₃ r₃ le₃ q=>wB ?_);refine Zo1 (q s₃ r₃) λb sj hpj rj lej q=>?_;cases b with
  | false=>
   rw[if_neg Bool.false_ne_true]at q;exact wP (hG _ _ (Zb4 hlt) ⟨i + 1,m₃,hpj,ob',rfl,hlt,q.1,q.2,hst',rj,((le.trans t.2).trans le₃).trans lej⟩)
  | true=>
   rw[if_pos rfl]at q;refine wB (Zk2 (q sj rj) λ_ sf mj hpf rf lef q=>?_);exact wP (hG _ _ (Zb4 hlt) ⟨i + 1,mj,hpf,ob',rfl,hlt,q.1,q.2,hst',rf,(((le.trans t.2).trans le₃).trans lej).trans lef⟩)
 .have:i=n:=by (exact F20 0x876874208750 0x101110 rfl hi hlt)
  subst this;refine I.stop it m₂ hp₂ s' ob hI.le hst r (r.at hI.it hL).1 _ _ λh' t' he=>?_;refine hide λ_ Z=>?_;obtain ⟨r',le'⟩:=r.drop hI.it hL he t';apply Z;clear Z;exact wP (hD _ _ (hR m₂ hp₂ _ (Hp.Le.delN hI.le hit) (by rw[Hp.del_ne _ hai];exact hI.acc) hJ r' (le.trans le')))
structure Fr (hp:Hp) (L it acc C:Addr):Prop where
 i:hp it=none
 iL:it≠L
 a:hp acc=none
 aL:acc≠L
 ai:acc≠it
 c:hp C=none
 cL:C≠L
 ci:C≠it
 ca:C≠acc
structure Cells (scope:Scope) (x:Option PySem.Str):Prop where
 from_:∀ (n:Nat) (cl:List (PySem.Str × Addr)),cellsFrom n scope.names cl=x.elim cl λx=>(x,n) :: cl
 push:∀ h:Heap,pushCells h scope.names=x.elim h λ_=>h.push { cls:=.type "cell",data:=.cell none }
theorem Zdm {scope:Scope} (h:∀ y ∈ scope.names,y.2≠.cell):Cells scope none:=by
 have:∀ names:List (PySem.Str × NameKind),(∀ y ∈ names,y.2≠.cell)->(∀ n cl,cellsFrom n names cl=cl)/\∀ h,pushCells h names=h:=λnames=>by
  induction names with
  | nil=>exact λ_=>⟨λ_ _=>rfl,λ_=>rfl⟩
  | cons y r ih=>
   intro h;have i:=ih λz hz=>h z (.tail _ hz);have hk:(y.2 == NameKind.cell)=false:=by simpa using h y (.head _)
   exact ⟨λn cl=>by unfold cellsFrom;rw[hk];exact i.1 n cl,λz=>by unfold pushCells;rw[hk];exact i.2 z⟩
 exact ⟨(this _ h).1,(this _ h).2⟩
noncomputable abbrev Cl (x:Option PySem.Str) (C:Addr) (cl:List (PySem.Str × Addr)):List (PySem.Str × Addr):=x.elim cl λx=>(x,C + 1) :: cl
noncomputable abbrev CJ (x:Option PySem.Str) (C:Addr) (hp:Hp):Prop:=x.elim True λ_=>∃ vZ,hp (C + 1)=some (.cell vZ)
structure FrC (hp:Hp) (L it acc C:Addr):Prop where
 n:hp C=none
 l:C≠L
 i:C≠it
 a:C≠acc
theorem Zdg {scope:Scope}{globals:Addr}{cl:List (PySem.Str × Addr)}{qual:PySem.Str}{x:Option PySem.Str}{s:Shared}{W:Env->Shared->Prop} (O:Cells scope x)
  (h:W (newEnv scope s.heap.objs.size globals (Cl x s.heap.objs.size cl) qual none .none (some env) env.builtins) { s with heap:=x.elim (s.heap.push { cls:=.type "dict",data:=.dict #[] }) λ_=>(s.heap.push { cls:=.type "dict",data:=.dict #[] }).push { cls:=.type "cell",data:=.cell none } }) :
  wpAny (model PW W0) A (newFunctionEnv scope globals cl [] qual none .none (some env)) W E s:=by
 simp only[newFunctionEnv,Option.isSome_some,if_true];refine wB (wpAny_alloc ?_);refine wB (wpAny_layCells _ (λname kind cells=>by cases hkc:kind == NameKind.cell <;> simp[hkc]) _ _ _ _ ?_);rw[show ({ s with heap:=s.heap.push { cls:=.type "dict",data:=.dict #[] } }:Shared).heap.objs.size=s.heap.objs.size + 1 from Heap.size_push ..,O.from_];dsimp only;rw[O.push,List.forIn_nil];exact wB (wP (wP h))
noncomputable abbrev Zro (PW:Program) (W0:World) (A:Around) (E:ET) (B:Shared) (env:Env) (m:Loc) (use:Option (Value->Sem Unit)) (PP:ET) (s:Shared) (F:Addr->Hp->Prop):Prop:=
 ∀ hp₃ acc C m' s',C≠env.locals->hp₃ C=none->Rel B ((hp₃.set C (.ns m')).set env.locals (.ns m)) s'->ImmLe s.heap s'.heap->F acc hp₃->compPost (model PW W0) A E use PP (.ref acc) C (.ok .next) s'
noncomputable def Goes (PW:Program) (W0:World) (A:Around) (B:Shared) (env:Env) (m:Loc) (cmp:Expr) (fresh:Sem Value) (scope:Scope) (cl:List (PySem.Str × Addr)) (F:Addr->Hp->Prop) (v:AV) (hp:Hp):Prop:=
 ∀ E use PP s sY u,Rel B (hp.set env.locals (.ns m)) sY->ImmLe s.heap sY.heap->VR sY.heap v u->Zro PW W0 A E B env m use PP s F ->
  wpAny (model PW W0) A (pyIter u) (λit s₂=>wpAny (model PW W0) A fresh (λacc s₃=>wpAny (model PW W0) A (newFunctionEnv scope env.globals cl [] env.qual none .none (some env)) (λcenv sj=>codeAny (model PW W0) A (.compStart cmp 0 it acc { cenv with scope:=relabel scope env }) (compPost (model PW W0) A E use PP acc cenv.locals) sj) E s₃) E s₂) E sY
theorem Goes.run {cmp target:Expr}{ifs:List Expr}{p:Pos}{em:Addr->Env->Sem Unit}{fresh:Sem Value}{accob:Obj}{scope:Scope}{x:Option PySem.Str}{cl:List (PySem.Str × Addr)}{n:Nat}{el:Nat->AV}{o:Nat->AO}{F:Addr->Hp->Prop}{v:AV}
  (hstart:∀ (it acc:Value) (env:Env) (R:Result->Shared->Prop) (s:Shared),codeAny (model PW W0) A (.compLoop cmp 0 it acc env) R s->wpAny (model PW W0) A (pyIter it) (λit' s'=>codeAny (model PW W0) A (.compLoop cmp 0 it' acc env) R s') (notedBy (model PW W0) A env λx s'=>R (.error x) s') s ->
   codeAny (model PW W0) A (.compStart cmp 0 it acc env) R s)
  (hfresh:∀ (E W) (s:Shared),W (.ref s.heap.objs.size) { s with heap:=s.heap.push accob }->wpAny (model PW W0) A fresh W E s) (ho:∀ h:Heap,OR (h.push accob) h.objs.size (o 0))
  (ht:∀ it acc env,CTurn PW W0 A cmp target 0 ifs p (em acc env) it acc env) (O:Cells scope x) (I:Itb (model PW W0) A B env hp n el v hp)
  (turn:∀ it acc C i m₂ hp₂ ob,Fr hp env.locals it acc C->(x≠none->FrC hp env.locals it acc (C + 1))->i < n->CI (hp.set env.locals (.ns m)) acc (o i) it ob hp₂->CJ x C hp₂->ASG (model PW W0) A (λ_ _=>False) B (compEnvC scope (Cl x C cl) C env) target (el i) m₂ hp₂ λm₃ hp₃=>
   TSTs (model PW W0) A (λ_ _=>False) B (compEnvC scope (Cl x C cl) C env) ifs m₃ hp₃ λb hpj=>
    if b then EMT (model PW W0) A (λ_ _=>False) B (compEnvC scope (Cl x C cl) C env) (em acc (compEnvC scope (Cl x C cl) C env)) m₃ hpj λ_ hpf=>CI (hp.set env.locals (.ns m)) acc (o (i + 1)) it ob hpf/\CJ x C hpf
    else CI (hp.set env.locals (.ns m)) acc (o (i + 1)) it ob hpj/\CJ x C hpj)
  (fin:∀ acc,hp acc=none->acc≠env.locals->F acc (hp.set acc (o n))):Goes PW W0 A B env m cmp fresh scope cl F v hp:=λE use PP s sY u rY leY hu hpost=>by
 refine I m sY u E _ rY hu λitob st st0 hfr hpi hItr=>hfresh _ _ _ (Zdg O ?_);have n1:=rY.newAt itob (.obj itob) ⟨Heap.get?_push_size _ hfr,((hItr hp env.locals λ_ _ l=>l).ok _ _ st0).1⟩;have n2:=Rel.newAt n1.1 accob (o 0) (ho _);have n3:=Rel.newAt n2.1 { cls:=.type "dict",data:=.dict #[] } (.ns λ_=>none) ⟨_,Heap.Ns.new _ _,⟨λx v e=>(by cases e),λx _=>rfl⟩⟩;have n4:=Rel.newAt n3.1 { cls:=.type "cell",data:=.cell none } (.cell none) ⟨_,none,Heap.get?_push_size _ rfl,rfl,rfl⟩;have e4:(((sY.heap.push itob).push accob).push { cls:=.type "dict",data:=.dict #[] }).objs.size=((sY.heap.push itob).push accob).objs.size + 1:=Heap.size_push ..;have q1:=n1.2.1;have q2:=n2.2.1;have q3:=n3.2.1;have q4:=n4.2.1;dsimp only at n1 n2 n3 n4 q1 q2 q3 q4;rw[e4]at n4 q4;dsimp only;generalize ((sY.heap.push itob).push accob).objs.size=C at *;generalize (sY.heap.push itob).objs.size=acc at *;generalize sY.heap.objs.size=it at *;have ne:∀ {h:Hp}{z y:Addr}{o:AO},(h.set y o) z=none->z≠y:=λe f=>by rw[f,Hp.ss]at e;cases e
 have a5:acc≠it:=ne q2;have c1:C≠acc:=ne q3;rw[Hp.sn _ _ c1]at q3;have c2:C≠it:=ne q3;rw[Hp.sn _ _ c2]at q3;rw[Hp.sn _ _ a5]at q2;have f:Fr hp env.locals it acc C:=⟨q1,n1.2.2.1,q2,n2.2.2.1,a5,q3,n3.2.2.1,c2,c1⟩;have b1:(hp.set env.locals (.ns m)) it=none:=Hp.snt f.iL f.i;have b2:(hp.set env.locals (.ns m)) acc=none:=Hp.snt f.aL f.a;have all:∃ s₂ hp0,{ sY with heap:=x.elim (((sY.heap.push itob).push accob).push { cls:=.type "dict",data:=.dict #[] }) λ_=>(((sY.heap.push itob).push accob).push { cls:=.type "dict",data:=.dict #[] }).push { cls:=.type "cell",data:=.cell none } }=s₂ /\
   Rel B (hp0.set C (.ns λ_=>none)) s₂/\ImmLe sY.heap s₂.heap/\CI (hp.set env.locals (.ns m)) acc (o 0) it itob hp0/\CJ x C hp0/\(x≠none->FrC hp env.locals it acc (C + 1)):=by
  have le3:=(n1.2.2.2.trans n2.2.2.2).trans n3.2.2.2;have ci:CI (hp.set env.locals (.ns m)) acc (o 0) it itob (((hp.set env.locals (.ns m)).set it (.obj itob)).set acc (o 0)):=⟨((Hp.Le.refl _).set b1 _).set b2 _,Hp.ss ..,Hp.snt (Ne.symm a5) (Hp.ss ..)⟩;cases x with
  | none=>
   have rel:=n3.1;rw[Hp.sc _ _ _ f.cL,Hp.sc _ _ _ f.aL,Hp.sc _ _ _ f.iL]at rel;exact ⟨_,_,rfl,rel,le3,ci,trivial,λh=>absurd rfl h⟩
  | some x=>
   have d1:C + 1≠C:=ne q4;rw[Hp.sn _ _ d1]at q4;have d2:C + 1≠acc:=ne q4;rw[Hp.sn _ _ d2]at q4;have d3:C + 1≠it:=ne q4;rw[Hp.sn _ _ d3]at q4;have rel:=n4.1;rw[Hp.sc _ _ _ n4.2.2.1,Hp.sc _ _ _ f.cL,Hp.sc _ _ _ f.aL,Hp.sc _ _ _ f.iL,Hp.sc _ _ _ (Ne.symm d1)]at rel;exact ⟨_,_,rfl,rel,le3.trans n4.2.2.2,⟨ci.le.set (Hp.snt n4.2.2.1 q4) _,Hp.snt (Ne.symm d2) ci.acc,Hp.snt (Ne.symm d3) ci.it⟩,⟨none,Hp.ss ..⟩,λ_=>⟨q4,n4.2.2.1,d3,d2⟩⟩
 clear n1 n2 n3 n4 e4 q4;refine hide λ_ Z=>?_;obtain ⟨s₂,hp0,e,rel,le,ci,cj,fc⟩:=all;apply Z;clear Z;rw[e];have loop:codeAny (model PW W0) A (.compLoop cmp 0 (.ref it) (.ref acc) (compEnvC scope (Cl x C cl) C env)) (compPost (model PW W0) A E use PP (.ref acc) C) s₂:=by
  refine Zkx (s₀:=s) (env:=compEnvC scope (Cl x C cl) C env) (J:=λ_ hp₂=>CJ x C hp₂) (Ne.symm f.ci) b1 a5 (ht _ _ _) (hItr (hp.set env.locals (.ns m)) C λa xs l=>l.call f.c) (λ_ hp₂ ob j=>?_) (λi m₂ hp₂ ob hi ci cj=>turn it acc C i m₂ hp₂ ob f fc hi ci cj) (λm' hp' s' hle hac _ r' le'=>hpost (hp.set acc (o n)) acc C m' s' f.cL (Hp.snt f.ca f.c) (r'.sub (Zng f.cL (Hp.snt f.ca f.c) λz o hz=>?_)) le' (fin acc f.a f.aL)) ci cj st0 rel (leY.trans le)
  .cases x with
   | none=>exact trivial
   | some x=>exact j.imp λ_ z=>Hp.snt (fc (by simp)).i z
  .by_cases hza:z=acc
   .rw [hza,Hp.sn _ _ f.aL,Hp.ss]at hz;rw[hza,hac];exact hz
   .refine hle _ _ ?_;rw[Hp.sc _ _ _ f.aL]at hz
    rwa [Hp.sn _ _ hza]at hz
 exact hstart _ _ _ _ _ loop (hpi _ _ _ _ (rel.at (env:=compEnvC scope (Cl x C cl) C env) ci.it (Ne.symm f.ci)).1 loop)
theorem Goes.one {elt target iter:Expr}{ifs:List Expr}{scope:Scope}{pos:Pos}{cl:List (PySem.Str × Addr)}{n:Nat}{el e:Nat->AV}{p:Nat->Bool}{F:Addr->Hp->Prop}{v:AV} (O:Cells scope none) (I:Itb (model PW W0) A B env hp n el v hp) (hn:n<=100000)
  (turn:∀ C m₂ hp₂ i,i < n->hp C=none->C≠env.locals->Hp.Le (hp.set env.locals (.ns m)) hp₂->ASG (model PW W0) A (λ_ _=>False) B (compEnvC scope cl C env) target (el i) m₂ hp₂ λm₃ hp₃=>Hp.Le hp₂ hp₃ /\
   TSTs (model PW W0) A (λ_ _=>False) B (compEnvC scope cl C env) ifs m₃ hp₃ λt hpj=>t=p i/\Hp.Le hp₃ hpj/\(t=true->EV (model PW W0) A (λ_ _=>False) B (compEnvC scope cl C env) elt m₃ hpj λv' hpf=>v'=e i/\Hp.Le hpj hpf))
  (fin:∀ acc,hp acc=none->acc≠env.locals->F acc (hp.set acc (.list (((List.range n).filter p).map e)))) :
  Goes PW W0 A B env m (.ListComp elt [⟨target,iter,ifs,0⟩] scope pos) (newList []) scope cl F v hp:=by
 refine Goes.run (x:=none) (o:=λi=>.list (((List.range i).filter p).map e)) (λ_ _ _ _ _ h0 h=>codeAny_compStart_list h0 h) (λ_ _ _ h=>wpAny_newObj_type h) (λh=>⟨#[],0,IsL.new _ _,by simp[VRs]⟩)
  (em:=λacc env=>do let _ <-call (.builtin "list.append") [.ref acc,<-eval elt env]) (λit acc env=>⟨by rw[compTurn_list];rfl,rfl,rfl,rfl⟩) O I (λit acc C i m₂ hp₂ ob f _ hi c _=>?_) fin
 refine (turn C m₂ hp₂ i hi f.c f.cL c.le).mono λm₃ hp₃ z s r=>?_;refine useT (z.2 s r) λt s' hpj rj lej q=>mkT rj lej ?_;have c4:=(c.up z.1).up q.2.1;have er:((List.range (i + 1)).filter p).map e=((List.range i).filter p).map e ++ (if t then [e i] else []):=by rw[List.range_succ,List.filter_append,List.map_append,q.1];congr 1;by_cases hp':p i <;> simp[hp']
 rw[er];cases t with
 | false=>exact ⟨by simpa using c4,trivial⟩
 | true=>
  refine Zkw (Ne.symm f.ca) ((q.2.2 rfl).mono λv' hpf y=>?_);obtain ⟨rfl,l5⟩:=y;exact ⟨_,(c4.up l5).acc,by rw[List.length_map];exact Nat.le_trans (List.length_filter_le _ _) (by rw[List.length_range];lia),(c4.up l5).put (Hp.snt f.aL f.a) f.ai,trivial⟩
theorem Zol {elt target iter:Expr}{ifs:List Expr}{gs:List Comprehension}{scope:Scope}{pos:Pos}{cl:List (PySem.Str × Addr)}{Q:QV} (hclos:closureFor scope env=pure cl) (hnames:∀ x ∈ scope.names,x.2 = .local->scope.names.lookup x.1=some .local)
  (h:EV (model PW W0) A E B env iter m hp (Goes PW W0 A B env m (.ListComp elt (⟨target,iter,ifs,0⟩ :: gs) scope pos) (newList []) scope cl λacc hp'=>Q (.ref acc) hp'))
  (hs:∀ x,foldedSetIterable iter env x=pure x:=by intro _;rfl) (hkind:autoParam (scope.kind = .function) rB):EV (model PW W0) A E B env (.ListComp elt (⟨target,iter,ifs,0⟩ :: gs) scope pos) m hp Q:=λs r=>by
 rw[eval_ListComp];exact wpAny_comprehension_free (use:=none) rfl hs hclos hkind hnames (h.use r λu sY o hpY rY leY hu x=>x _ _ _ _ _ _ rY leY hu Zi8)
theorem Zrn {y:PySem.Str}{py spos p:Pos}{cmp:Expr}{g:Comprehension}{gs:List Comprehension}{fresh:Sem Value}{scope:Scope}{cl:List (PySem.Str × Addr)}{Q:QX} (hcl:clausesOf cmp=g :: gs) (hc:evalThenUse cmp env (assign (.Name y py) env)=(comprehension cmp scope env p fresh false (eval g.iter env) (some (assign (.Name y py) env)) >>= λ_=>pure ()))
  (hclos:closureFor scope env=pure cl) (hnames:∀ x ∈ scope.names,x.2 = .local->scope.names.lookup x.1=some .local)
  (h:EV (model PW W0) A E B env g.iter m hp (Goes PW W0 A B env m cmp fresh scope cl λacc hp'=>Q .next (upd m y (.ref acc)) hp'))
  (hs:∀ x,foldedSetIterable g.iter env x=pure x:=by intro _;rfl) (hkind:autoParam (scope.kind = .function) rB) (hsw:autoParam (swapsWith cmp (some (.Name y py)) spos.line env=pure true) rB) (hly:autoParam (env.kindOf y=some .local) rB)
  (hky:autoParam ((env.scope.kind == .class || (env.scope.kind == .module && env.locals != env.globals))=false) rB):EX (model PW W0) A E B env (.Assign [.Name y py] cmp spos) m hp Q:=λs r=>by
 rw[exec_Assign_Name_used _ _ _ _ hsw,hc];refine wB (wpAny_standAt (wB (wB (wpAny_comprehension_free hcl hs hclos hkind hnames (h.use r λu sY o hpY rY leY hu x=>x _ _ _ _ _ _ rY leY hu (Zi7 hly hky))))))
end
section
variable {K:Frag}
theorem Zis {cmp target:Expr}{d:Nat}{ifs:List Expr}{p:Pos}{em:Sem Unit}{it acc:Addr}{n:Nat}{el:Nat->AV}{st:Nat->Obj->Prop}{J:Nat->Loc->Hp->Prop}{hb:Hp}{R:Result->Shared->Prop} (hL:it≠env.locals) (hit:hb it=none)
  (ht:CTurn PW W0 A cmp target d ifs p em it acc env) (I:Itr (model PW W0) A B hb env.locals n el st) (jset:∀ i m₂ hp₂ ob,J i m₂ hp₂->J i m₂ (hp₂.set it (.obj ob)))
  (turn:∀ i m₂ hp₂ ob,i < n->Hp.Le hb hp₂->hp₂ it=some (.obj ob)->J i m₂ hp₂->ASG (model PW W0) A (λ_ _=>False) B env target (el i) m₂ hp₂ λm₃ hp₃=>TSTs (model PW W0) A (λ_ _=>False) B env ifs m₃ hp₃ λb hpj=>
   if b then EMT (model PW W0) A (λ_ _=>False) B env em m₃ hpj λmj hpf=>Hp.Le hb hpf/\hpf it=some (.obj ob)/\J (i + 1) mj hpf
   else Hp.Le hb hpj/\hpj it=some (.obj ob)/\J (i + 1) m₃ hpj) {s₀:Shared}
  (hR:∀ m' hp' s',Hp.Le hb (hp'.del it)->J n m' hp'->Rel B ((hp'.del it).set env.locals (.ns m')) s'->ImmLe s₀.heap s'.heap->R (.ok .next) s')
  {s:Shared}{ob:Obj} (h0:Hp.Le hb hp) (hob:hp it=some (.obj ob)) (j0:J 0 m hp) (hst:st 0 ob) (rel:Rel B (hp.set env.locals (.ns m)) s) (leZ:ImmLe s₀.heap s.heap) :
  codeAny (model PW W0) A (.compLoop cmp d (.ref it) (.ref acc) env) R s:=by
 refine Zcy ht.q (λk s'=>∃ i m₂ hp₂ ob,k=n - i/\i<=n/\Hp.Le hb hp₂/\hp₂ it=some (.obj ob)/\J i m₂ hp₂/\st i ob/\Rel B (hp₂.set env.locals (.ns m₂)) s'/\ImmLe s₀.heap s'.heap) (λk s' x W X hD hG=>?_) n ⟨0,m,hp,ob,rfl,Nat.zero_le _,h0,hob,j0,hst,rel,leZ⟩;obtain ⟨i,m₂,hp₂,ob,rfl,hi,hI,hob,hJ,hst,r,le⟩:=x;rw[ht.un,ht.dn];refine wpAny_noted ?_;rw[ht.tn];refine wB (wpAny_standAt (wB ?_));by_cases hlt:i < n
 .refine I.next i it m₂ hp₂ s' ob hlt hI hst r (r.at hob hL).1 _ _ λv h' t' ob' hv hg hst' hs=>?_;have t:=r.turn (a:=it) (o:=.obj ob) (Hp.snt hL hob) hs (.obj ob') (λ_=>⟨hg,(I.ok _ _ hst').1⟩) t';rw[Hp.sc _ _ _ (Ne.symm hL)]at t;obtain ⟨nm,hcl,hno⟩:=(I.ok _ _ hst').2;refine wB (Zbz hg hcl hno ?_);have hturn:=turn i m₂ (hp₂.set it (.obj ob')) ob' hlt (hI.set hit _) (Hp.ss ..) (jset _ _ _ _ hJ);refine wB (Zk2 (hturn _ v t.1 (hv.mono t.2)) λ_ s₃ m₃ hp₃ r₃ le₃ q=>wB ?_);refine Zo1 (q s₃ r₃) λb sj hpj rj lej q=>?_;cases b with
  | false=>
   rw[if_neg Bool.false_ne_true]at q;exact wP (hG _ _ (Zb4 hlt) ⟨i + 1,m₃,hpj,ob',rfl,hlt,q.1,q.2.1,q.2.2,hst',rj,((le.trans t.2).trans le₃).trans lej⟩)
  | true=>
   rw[if_pos rfl]at q;refine wB (Zk2 (q sj rj) λ_ sf mj hpf rf lef q=>?_);exact wP (hG _ _ (Zb4 hlt) ⟨i + 1,mj,hpf,ob',rfl,hlt,q.1,q.2.1,q.2.2,hst',rf,(((le.trans t.2).trans le₃).trans lej).trans lef⟩)
 .have:i=n:=by (exact F20 0x876874208750 0x101110 rfl hi hlt)
  subst this;refine I.stop it m₂ hp₂ s' ob hI hst r (r.at hob hL).1 _ _ λh' t' he=>?_;obtain ⟨r',le'⟩:=r.drop hob hL he t';exact wP (hD _ _ (hR m₂ hp₂ _ (Hp.Le.delN hI hit) hJ r' (le.trans le')))
end
section
variable {K:Frag}
theorem Goes.listP {elt target iter:Expr}{ifs:List Expr}{scope:Scope}{pos:Pos}{cl:List (PySem.Str × Addr)}{n:Nat}{el:Nat->AV}{F:Addr->Hp->Prop}{v:AV} (J:Addr->Addr->Nat->List AV->Hp->Prop)
  (keep:∀ L L' acc i zs h h',J L acc i zs h->(∀ z xs,z≠L->z≠acc->h z=some (.list xs)->h' z=some (.list xs)/\z≠L')->J L' acc i zs h') (J0:∀ L acc h,J L acc 0 [] h) (Jn:∀ L acc i zs h,J L acc i zs h->zs.length<=5000)
  (O:Cells scope none) (I:Itb (model PW W0) A B env hp n el v hp)
  (turn:∀ acc C m₂ hp₂ i zs,i < n->hp C=none->C≠env.locals->acc≠C->hp₂ acc=some (.list zs)->Hp.Le (hp.set env.locals (.ns m)) hp₂->J C acc i zs hp₂->ASG (model PW W0) A (λ_ _=>False) B (compEnvC scope cl C env) target (el i) m₂ hp₂ λm₃ hp₃=>
   TSTs (model PW W0) A (λ_ _=>False) B (compEnvC scope cl C env) ifs m₃ hp₃ λt hpj=>if t then EV (model PW W0) A (λ_ _=>False) B (compEnvC scope cl C env) elt m₃ hpj λv' hpf=>Hp.Le hp₂ hpf/\J C acc (i + 1) (zs ++ [v']) hpf else Hp.Le hp₂ hpj/\J C acc (i + 1) zs hpj)
  (fin:∀ acc zs hp',hp acc=none->acc≠env.locals->Hp.Le hp hp'->hp' acc=some (.list zs)->J env.locals acc n zs hp'->F acc hp') :
  Goes PW W0 A B env m (.ListComp elt [⟨target,iter,ifs,0⟩] scope pos) (newList []) scope cl F v hp:=λE use PP s sY u rY leY hu hpost=>by
 refine I m sY u E _ rY hu λitob st st0 hfr hpi hItr=>wpAny_newObj_type (Zdg (x:=none) O ?_);have n1:=rY.newAt itob (.obj itob) ⟨Heap.get?_push_size _ hfr,((hItr hp env.locals λ_ _ l=>l).ok _ _ st0).1⟩;have n2:=Rel.newAt n1.1 { cls:=.type "list",data:=.seq #[] } (.list []) ⟨#[],0,IsL.new _ _,by simp[VRs]⟩;have n3:=Rel.newAt n2.1 { cls:=.type "dict",data:=.dict #[] } (.ns λ_=>none) ⟨_,Heap.Ns.new _ _,⟨λx v e=>(by cases e),λx _=>rfl⟩⟩;have q1:=n1.2.1;have q2:=n2.2.1;have q3:=n3.2.1;dsimp only at n1 n2 n3 q1 q2 q3;dsimp only;generalize ((sY.heap.push itob).push { cls:=.type "list",data:=.seq #[] }).objs.size=C at *;generalize (sY.heap.push itob).objs.size=acc at *;generalize sY.heap.objs.size=it at *;have ne:∀ {h:Hp}{z y:Addr}{o:AO},(h.set y o) z=none->z≠y:=λe f=>by rw[f,Hp.ss]at e;cases e
 have a5:acc≠it:=ne q2;have c1:C≠acc:=ne q3;rw[Hp.sn _ _ c1]at q3;have c2:C≠it:=ne q3;rw[Hp.sn _ _ c2]at q3;rw[Hp.sn _ _ a5]at q2;have f:Fr hp env.locals it acc C:=⟨q1,n1.2.2.1,q2,n2.2.2.1,a5,q3,n3.2.2.1,c2,c1⟩;have b1:(hp.set env.locals (.ns m)) it=none:=Hp.snt f.iL f.i;have b2:(hp.set env.locals (.ns m)) acc=none:=Hp.snt f.aL f.a;have le3:=(n1.2.2.2.trans n2.2.2.2).trans n3.2.2.2;have rel:=n3.1;rw[Hp.sc _ _ _ f.cL,Hp.sc _ _ _ f.aL,Hp.sc _ _ _ f.iL]at rel;have hle:Hp.Le (hp.set env.locals (.ns m)) (((hp.set env.locals (.ns m)).set it (.obj itob)).set acc (.list [])):=((Hp.Le.refl _).set b1 _).set b2 _;have hac:(((hp.set env.locals (.ns m)).set it (.obj itob)).set acc (.list [])) acc=some (.list []):=Hp.ss ..;have hit:(((hp.set env.locals (.ns m)).set it (.obj itob)).set acc (.list [])) it=some (.obj itob):=Hp.snt (Ne.symm a5) (Hp.ss ..);clear n1 n2 n3;generalize ((hp.set env.locals (.ns m)).set it (.obj itob)).set acc (.list [])=hp0 at rel hle hac hit;have hL3:(hp.set env.locals (.ns m)) env.locals=some (.ns m):=Hp.ss ..
 suffices H:∀ s₂,Rel B (hp0.set C (.ns λ_=>none)) s₂->ImmLe sY.heap s₂.heap->codeAny (model PW W0) A (.compStart (.ListComp elt [⟨target,iter,ifs,0⟩] scope pos) 0 (.ref it) (.ref acc) (compEnvC scope cl C env)) (compPost (model PW W0) A E use PP (.ref acc) C) s₂ from H _ rel le3
 clear rel le3;intro s₂ rel le3;have loop:codeAny (model PW W0) A (.compLoop (.ListComp elt [⟨target,iter,ifs,0⟩] scope pos) 0 (.ref it) (.ref acc) (compEnvC scope cl C env)) (compPost (model PW W0) A E use PP (.ref acc) C) s₂:=by
  refine Zis (s₀:=s) (env:=compEnvC scope cl C env) (ifs:=ifs) (p:=iter.pos) (em:=do let _ <-call (.builtin "list.append") [.ref acc,<-eval elt (compEnvC scope cl C env)]) (J:=λi m₂ hp₂=>∃ zs,hp₂ acc=some (.list zs)/\J C acc i zs hp₂/\∃ o,hp₂ it=some (.obj o)) (Ne.symm f.ci) b1 ⟨by rw[compTurn_list];rfl,rfl,rfl,rfl⟩ (hItr (hp.set env.locals (.ns m)) C λa xs l=>l.call f.c) (λi m₂ hp₂ ob j=>?_) (λi m₂ hp₂ ob hi hl ho j=>?_) (λm' hp' s' hl j r' le'=>?_) hle hit ⟨[],hac,J0 _ _ _,_,hit⟩ st0 rel (leY.trans le3)
  .obtain ⟨zs,j1,j2,o,j3⟩:=j;exact ⟨zs,Hp.snt f.ai j1,keep _ _ _ _ _ _ _ j2 λz xs hz _ e=>⟨Hp.snt (λe'=>by rw[e',j3]at e;cases e) e,hz⟩,ob,Hp.ss ..⟩
  .obtain ⟨zs,j1,j2,_⟩:=j;refine (turn acc C m₂ hp₂ i zs hi f.c f.cL (Ne.symm f.ca) j1 hl j2).mono λm₃ hp₃ z s r=>?_;refine useT (z s r) λt s' hpj rj lej q=>mkT rj lej ?_;cases t with
   | false=>exact ⟨hl.trans q.1,q.1 _ _ ho,zs,q.1 _ _ j1,q.2,ob,q.1 _ _ ho⟩
   | true=>
    refine Zkw (Ne.symm f.ca) (EV.mono q λv' hpf y=>?_);obtain ⟨l5,j5⟩:=y;have hz:=Jn _ _ _ _ _ j2;refine ⟨zs,l5 _ _ j1,by (exact Nat.le_trans ‹_› (by decide)),λz o e=>?_,Hp.snt (Ne.symm f.ai) (l5 _ _ ho),zs ++ [v'],Hp.ss ..,keep _ _ _ _ _ _ _ j5 λz xs hz hza e=>⟨Hp.snt hza e,hz⟩,ob,Hp.snt (Ne.symm f.ai) (l5 _ _ ho)⟩;exact Hp.snt (Hp.ne_of e b2) (l5 _ _ (hl _ _ e))
  .obtain ⟨zs,j1,j2,o,j3⟩:=j;have hE:hp' env.locals=some (.ns m):=by
    have:=hl _ _ hL3
    rwa [Hp.del_ne _ (Ne.symm f.iL)]at this
   have g1:∀ z,z≠C->z≠env.locals->(if z=C then none else if z=env.locals then hp z else (hp'.del it) z)=(hp'.del it) z:=λz h1 h2=>by simp[h1,h2]
   refine hpost (λz=>if z=C then none else if z=env.locals then hp z else (hp'.del it) z) acc C m' s' f.cL (by simp) (r'.sub λz o e=>?_) le' (fin acc zs _ f.a f.aL (λz o e=>?_) ?_ (keep _ _ _ _ _ _ _ j2 λz xs hz hza e=>?_))
   .by_cases h1:z=env.locals
    .subst h1;rw[Hp.ss]at e;cases e;show ((hp'.del it).set C _) env.locals=_;rw[Hp.sn _ _ (Ne.symm f.cL),Hp.del_ne _ (Ne.symm f.iL)];exact hE
    .rw [Hp.sn _ _ h1]at e;by_cases h2:z=C
     .subst h2;rw[Hp.ss]at e;cases e;exact Hp.ss ..
     .rw [Hp.sn _ _ h2,g1 z h2 h1]at e;show ((hp'.del it).set C _) z=_;rw[Hp.sn _ _ h2];exact e
   .have h2:=Hp.ne_of e f.c;by_cases h1:z=env.locals
    .simp [h1,Ne.symm f.cL];rw[<-h1];exact e
    .rw [g1 z h2 h1];exact hl _ _ (Hp.snt h1 e)
   .rw [g1 acc (Ne.symm f.ca) f.aL,Hp.del_ne _ f.ai];exact j1
   .have h1:z≠env.locals:=λe'=>by rw[e',hE]at e;cases e
    refine ⟨?_,h1⟩;rw[g1 z hz h1,Hp.del_ne _ (λe'=>by rw[e',j3]at e;cases e)];exact e
 exact codeAny_compStart_list loop (hpi _ _ _ _ (rel.at (env:=compEnvC scope cl C env) hit (Ne.symm f.ci)).1 loop)
end
noncomputable abbrev lEnv (L:Addr):Env:=callEnvC fdLaw L 272
noncomputable def hdF (ns:List Int):Int:=(ns ++ [0,0]).getD 0 0
noncomputable def sdF (ns:List Int):Int:=(ns ++ [0,0]).getD 1 0
theorem Zlf {α:Type}{xs:List α}{k:Int} (h:(xs.length:Int)<=k):pick xs none (some k)=xs:=by unfold pick;simp only[Option.elim,List.drop_zero];exact List.take_of_length_le (by unfold clipAt;lia)
theorem Zle {ns:List Int}:pick ((ns ++ [0,0]).map AV.int) none (some 2)=[.int (hdF ns),.int (sdF ns)]:=by
 unfold pick hdF sdF;simp only[Option.elim,List.drop_zero];have:clipAt ((ns ++ [0,0]).map AV.int).length 2=2:=by rw[List.length_map,List.length_append];unfold clipAt;simp only[List.length_cons,List.length_nil];lia
 rw[this]
 match ns with
 | []=>rfl
 | [a]=>rfl
 | a :: b :: r=>rfl
theorem cj1 (L:Addr):L + 1≠L:=Nat.succ_ne_self L
section
variable {A:Around}{E:ET}{B:Shared}{m:Loc}{hp:Hp}{L:Addr}{KK:QX}{rest:List Stmt}
theorem Zpk {l:Addr}{ns:List Int} (hh:A.handled=none) (hlen:ns.length<=63) (hl:Lst B hp L l (ns.map .int)) (g0:m (S "script")=some (.ref l)) (c1:hp (L + 1)=some (.cell none))
  (hK:∀ m' hp' sA,m' (S "script")=some (.ref sA)->m' (S "second")=some (.int (sdF ns))->hp' sA=some (.list (ns.map .int))->sA≠L->hp' (L + 1)=some (.cell (some (.int (hdF ns))))->(∀ z o,z≠L + 1->hp z=some o->hp' z=some o)->EXs (model PW W0) A E B (lEnv L) rest m' hp' KK) :
  EXs (model PW W0) A E B (lEnv L) (lawS 0 :: lawS 1 :: rest) m hp KK:=by
 refine Zac (Zaq (Zbx (Zaa g0 (Zah ⟨l,ns.map .int,none,some 63,rfl,hl,by rw[List.length_map];exact sz' (by (exact Nat.le_trans ‹_› (by decide))),rfl,rfl,λsA hs hsL=>?_⟩))));rw[Zlf (show ((ns.map AV.int).length:Int)<=63 by rw[List.length_map];(exact Int.ofNat_le.mpr ‹_›))];have hsA:(hp.set sA (.list (ns.map .int))) sA=some (.list (ns.map .int)):=Hp.ss ..;have l1:Hp.Le hp (hp.set sA (.list (ns.map .int))):=(Hp.Le.refl hp).set hs _;have sc:sA≠L + 1:=λe=>by rw[e,c1]at hs;cases hs
 generalize hp.set sA (.list (ns.map .int))=hp1 at hsA l1 ⊢;refine Zac (Zbk (Zkt (Zad (Zaa (by first | assumption | rfl) (Zbt (Zab (Zah (Zab (Zah (Zae ⟨sz rfl,λzA hz hzL=>?_⟩))))))))));refine Zdb (xs:=ns.map .int) (ys:=[.int 0,.int 0]) (.inl ⟨Hp.snt (Hp.ne_of hsA hz) hsA,hsL⟩) (.inl ⟨Hp.ss ..,hzL⟩) (by rw[List.length_map];show ns.length + 2<=5000;lia) λc hc hcL=>Zah ⟨c,(ns ++ [0,0]).map .int,none,some 2,rfl,.inl ⟨by rw[List.map_append];exact Hp.ss ..,hcL⟩,by rw[List.length_map,List.length_append];exact sz' (by show ns.length + 2<=5000;lia),rfl,rfl,λb hb hbL=>?_⟩;rw[Zle];have l2:=(l1.set (l1.none hz) (.list [.int 0,.int 0]));have l3:=l2.set (l2.none hc) (.list (ns.map AV.int ++ [.int 0,.int 0]));have l4:=l3.set (l3.none hb) (.list [.int (hdF ns),.int (sdF ns)]);have hs4:=((((Hp.Le.refl hp1).set hz (.list [.int 0,.int 0])).trans ((Hp.Le.refl _).set hc (.list (ns.map AV.int ++ [.int 0,.int 0])))).trans ((Hp.Le.refl _).set hb (.list [.int (hdF ns),.int (sdF ns)]))) _ _ hsA;have hb4:((((hp1.set zA (.list [.int 0,.int 0])).set c (.list (ns.map AV.int ++ [.int 0,.int 0])))).set b (.list [.int (hdF ns),.int (sdF ns)])) b=some (.list [.int (hdF ns),.int (sdF ns)]):=Hp.ss ..;generalize (((hp1.set zA (.list [.int 0,.int 0])).set c (.list (ns.map AV.int ++ [.int 0,.int 0])))).set b (.list [.int (hdF ns),.int (sdF ns)])=hp2 at l4 hs4 hb4 ⊢;refine Zeo hh rfl rfl rfl (.inl ⟨hb4,hbL⟩) (Zam (Zhx (c:=L + 1) rfl (l4 _ _ c1) (cj1 L) (Zam (Zak (Zav ?_)))));exact hK _ _ sA (by first | assumption | rfl) (by first | assumption | rfl) (Hp.snt sc hs4) hsL (Hp.ss ..) λz o hz e=>Hp.snt hz (l4 _ _ e)
end
theorem Zjv (a:Int) {b:Int} (h : 0<=b):a.fdiv b=a / b:=Int.fdiv_eq_ediv_of_nonneg a h
theorem Zcx (a:Int) {b:Int} (h : 0<=b):a.fmod b=a % b:=Int.fmod_eq_emod_of_nonneg a h
noncomputable def rawF (ns:List Int):List Int:=ns.drop 2 ++ [(ns.length:Int),1,2,4,3,1,2]
noncomputable def itF (ns:List Int):List Int:=(rawF ns).map (· % 8)
noncomputable def cutF (ns:List Int):Int:=((((itF ns).length:Int) + 1) / 2 + sdF ns) % (((itF ns).length:Int) + 1)
noncomputable def Zds (ns:List Int):Int:=(hdF ns / 128 + (ns.length:Int)) % 9
theorem Zg9 (ns:List Int):(rawF ns).length=ns.length - 2 + 7:=by unfold rawF;rw[List.length_append,List.length_drop];rfl
theorem Zjl (ns:List Int):(itF ns).length=ns.length - 2 + 7:=by unfold itF;rw[List.length_map,Zg9]
theorem Zfj {α:Type}{xs:List α}{k:Nat}:pick xs (some (k:Int)) none=xs.drop k:=by
 unfold pick;simp only[Option.elim];have:clipAt xs.length (k:Int)=min k xs.length:=by unfold clipAt;lia
 rw[this,List.take_of_length_le (by rw[List.length_drop];exact Nat.le_refl _)];rcases Nat.le_total k xs.length with h | h
 .rw [Nat.min_eq_left h]
 .rw [Nat.min_eq_right h,List.drop_eq_nil_of_le h,List.drop_length]
theorem Zi9 {α:Type}{xs:List α}{k:Nat}:pick xs none (some (k:Int))=xs.take k:=by
 unfold pick;simp only[Option.elim,List.drop_zero,Nat.sub_zero];have:clipAt xs.length (k:Int)=min k xs.length:=by unfold clipAt;lia
 rw[this,List.take_eq_take_min];simp
theorem Zm5 {xs:List Int}{i:Nat} (h:i < xs.length):(xs.map AV.int).getD i .none = .int (xs.getD i 0):=by rw[List.getD_eq_getElem?_getD,List.getD_eq_getElem?_getD,List.getElem?_map,List.getElem?_eq_getElem h];rfl
theorem Zet {α:Type} (xs:List Int) (f:Int->α) (n:Nat) (hn:n=xs.length):(((List.range n).filter λ_=>true).map λi=>f (xs.getD i 0))=xs.map f:=by
 subst hn;rw[List.filter_eq_self.mpr λ_ _=>rfl];apply List.ext_getElem?;intro i;rw[List.getElem?_map,List.getElem?_map];by_cases hi:i < xs.length
 .rw [List.getElem?_range hi,List.getElem?_eq_getElem hi];simp[hi]
 .rw [List.getElem?_eq_none (by simp;(exact Nat.le_of_not_lt ‹_›)),List.getElem?_eq_none (by (exact Nat.le_of_not_lt ‹_›))];rfl
theorem cj2 (L:Addr):L + 2≠L:=Nat.ne_of_gt (Nat.lt_add_of_pos_right (by decide))
theorem cj3 (L:Addr):L + 3≠L:=Nat.ne_of_gt (Nat.lt_add_of_pos_right (by decide))
theorem cj4 (L:Addr):L + 4≠L:=Nat.ne_of_gt (Nat.lt_add_of_pos_right (by decide))
theorem cj5 (L:Addr):L + 5≠L:=Nat.ne_of_gt (Nat.lt_add_of_pos_right (by decide))
section
variable {A:Around}{E:ET}{B:Shared}{m:Loc}{hp:Hp}{L:Addr}{KK:QX}{rest:List Stmt}{sA:Addr}{ns:List Int}
theorem Zq6 (G:Gnd (KW W0) B) (hh:A.handled=none) (hlen:ns.length<=63) (g0:m (S "script")=some (.ref sA)) (hs:hp sA=some (.list (ns.map .int))) (hsL:sA≠L)
  (hK:∀ iA hp',hp iA=none->iA≠L->hp' iA=some (.list ((itF ns).map .int))->Hp.Le hp hp'->EXs (model PW W0) A E B (lEnv L) rest (upd m (S "items") (.ref iA)) hp' KK) :
  EXs (model PW W0) A E B (lEnv L) (lawS 2 :: rest) m hp KK:=by
 refine Zac (Zrn rfl rfl (cl:=[]) rfl (by decide) ?_);refine Zad (Zbx (Zaa g0 (Zah ⟨sA,ns.map .int,some 2,none,rfl,.inl ⟨hs,hsL⟩,by rw[List.length_map];exact sz' (by (exact Nat.le_trans ‹_› (by decide))),rfl,rfl,λa ha haL=>?_⟩)));rw[show pick (ns.map AV.int) (some 2) none=(ns.drop 2).map .int from by rw[List.map_drop];exact Zfj (k:=2)];have l1:=(Hp.Le.refl hp).set ha (.list ((ns.drop 2).map .int));refine Zbt (Zab (Zao (Zat G (Zbc W0) Zaz (by decide) (λ_=>Zbi) ⟨rfl,Zab (Zaa g0 (Zae (Zbe (.inl ⟨l1 _ _ hs,hsL⟩) (by rw[List.length_map];exact sz' (by (exact Nat.le_trans ‹_› (by decide)))) (Zab (Zah (Zab (Zah (Zab (Zah (Zab (Zah (Zab (Zah (Zab (Zah (Zae ⟨sz rfl,λb hb hbL=>?_⟩))))))))))))))))⟩)));rw[List.length_map];refine Zdb (xs:=(ns.drop 2).map .int) (.inl ⟨Hp.snt (Hp.ne_of (Hp.ss ..) hb) (Hp.ss ..),haL⟩) (.inl ⟨Hp.ss ..,hbL⟩) (by rw[List.length_map,List.length_drop];show ns.length - 2 + 7<=5000;lia) λc hc hcL=>?_;have l2:=l1.set (l1.none hb) (.list [.int ns.length,.int 1,.int 2,.int 4,.int 3,.int 1,.int 2]);have l3:=l2.set (l2.none hc) (.list ((ns.drop 2).map AV.int ++ [.int ns.length,.int 1,.int 2,.int 4,.int 3,.int 1,.int 2]));have e1:(ns.drop 2).map AV.int ++ [.int ns.length,.int 1,.int 2,.int 4,.int 3,.int 1,.int 2]=(rawF ns).map .int:=by unfold rawF;rw[List.map_append];rfl
 rw[e1]at l3 ⊢;have c3:(((hp.set a (.list ((ns.drop 2).map .int))).set b (.list [.int ns.length,.int 1,.int 2,.int 4,.int 3,.int 1,.int 2])).set c (.list ((rawF ns).map .int))) c=some (.list ((rawF ns).map .int)):=Hp.ss ..;generalize ((hp.set a (.list ((ns.drop 2).map .int))).set b (.list [.int ns.length,.int 1,.int 2,.int 4,.int 3,.int 1,.int 2])).set c (.list ((rawF ns).map .int))=hp2 at l3 c3 ⊢;refine Goes.one (p:=λ_=>true) (e:=λi=>.int ((rawF ns).getD i 0 % 8)) (Zdm (by decide)) (.list hh (.inl ⟨c3,hcL⟩) (.refl _)) (by rw[List.length_map,Zg9];omega) (λC m₂ hp₂ i hi hC hCL le=>?_) λacc h1 h2=>?_
 .rw [List.length_map]at hi;rw[Zm5 hi];exact Zak ⟨.refl _,Ze6 ⟨rfl,.refl _,λ_=>Zad (Zaa (by first | assumption | rfl) (Zah (Zcz (by decide) ⟨by rw[Zcx _ (by decide)],.refl _⟩)))⟩⟩
 .refine hK acc _ (l3.none h1) h2 ?_ (l3.trans ((Hp.Le.refl hp2).set h1 _));rw[Hp.ss,List.length_map,Zet (rawF ns) (λx=>AV.int (x % 8)) _ rfl];unfold itF;rw[List.map_map];rfl
theorem Zq5 {iA:Addr} (G:Gnd (KW W0) B) (hlen:ns.length<=63) (g2:m (S "second")=some (.int (sdF ns))) (g3:m (S "items")=some (.ref iA)) (hi:hp iA=some (.list ((itF ns).map .int))) (hiL:iA≠L)
  (hK:EXs (model PW W0) A E B (lEnv L) rest (upd m (S "cut") (.int (cutF ns))) hp KK) :
  EXs (model PW W0) A E B (lEnv L) (lawS 3 :: rest) m hp KK:=by
 have hl:(itF ns).length<=68:=by rw[Zjl];(exact F10 0x445747053f58502471a 0x10011110 rfl hlen)
 have s1:((itF ns).map AV.int).length<=sizeLine:=by rw[List.length_map];exact sz' (by (exact Nat.le_trans ‹_› (by decide)))
 refine Zac (Zaq (Zad (Zad (Zad (Zad (Zao (Zat G (Zbc W0) Zaz (by decide) (λ_=>Zbi) ⟨rfl,Zab (Zaa g3 (Zae (Zbe (.inl ⟨hi,hiL⟩) s1 (Zah (Zap (Zah (Zcq (by decide) (by decide) (Zaa g2 (Zap ?_)))))))))⟩)))))));refine Zad (Zao (Zat G (Zbc W0) Zaz (by decide) (λ_=>Zbi) ⟨rfl,Zab (Zaa g3 (Zae (Zbe (.inl ⟨hi,hiL⟩) s1 (Zah (Zap (Zcz ?_ ?_))))))⟩))
 ·(exact F10 0x4673092 0x1 rfl)
 .rw [Zjv _ (by decide),Zcx _ (by (exact Int.natCast_nonneg _)),List.length_map];exact hK
theorem Zq4 (G:Gnd (KW W0) B) (hlen:ns.length<=63) (g0:m (S "script")=some (.ref sA)) (hs:hp sA=some (.list (ns.map .int))) (hsL:sA≠L) (c1:hp (L + 1)=some (.cell (some (.int (hdF ns))))) (c2:hp (L + 2)=some (.cell none))
  (hK:EXs (model PW W0) A E B (lEnv L) rest m (hp.set (L + 2) (.cell (some (.int (Zds ns))))) KK) :
  EXs (model PW W0) A E B (lEnv L) (lawS 4 :: rest) m hp KK:=by
 refine Zac (Zdc (c:=L + 2) rfl (cj2 L) (Zad (Zad (Zad (Zb8 (c:=L + 1) rfl c1 (cj1 L) (Zah (Zcq (by decide) (by decide) (Zao (Zat G (Zbc W0) Zaz (by decide) (λ_=>Zbi) ⟨rfl,Zab (Zaa g0 (Zae (Zbe (.inl ⟨hs,hsL⟩) (by rw[List.length_map];exact sz' (by (exact Nat.le_trans ‹_› (by decide)))) (Zap (Zah (Zcz (by decide) ⟨none,c2,?_⟩))))))⟩)))))))));rw[Zjv _ (by decide),Zcx _ (by decide),List.length_map];exact hK
end
noncomputable def ItO (h:Hp) (L acc:Addr) (y:AV):Prop:=(∃ k,y = .int k)\/∃ l xs,y = .ref l/\h l=some (.list xs)/\l≠L/\l≠acc
noncomputable def JO (L acc:Addr) (i:Nat) (zs:List AV) (h:Hp):Prop:=zs.length<=i/\i<=70/\∀ y ∈ zs,ItO h L acc y
theorem ItO.le {h h':Hp}{L acc:Addr}{y:AV} (x:ItO h L acc y) (l:Hp.Le h h'):ItO h' L acc y:=x.imp (λx=>x) λ⟨a,xs,e,g,n⟩=>⟨a,xs,e,l _ _ g,n⟩
theorem JO.push {L acc:Addr}{i:Nat}{zs:List AV}{h h':Hp}{v:AV} (j:JO L acc i zs h) (l:Hp.Le h h') (hi:i < 70) (hv:ItO h' L acc v):JO L acc (i + 1) (zs ++ [v]) h':=by
 obtain ⟨j1,j2,j3⟩:=j;refine ⟨by rw[List.length_append];exact Nat.succ_le_succ j1,hi,λy hy=>?_⟩;rw[List.mem_append]at hy;rcases hy with hy | hy
 .exact (j3 y hy).le l
 .rw [List.mem_singleton]at hy;rw[hy];exact hv
section
variable {A:Around}{E:ET}{B:Shared}{m:Loc}{hp:Hp}{L:Addr}{KK:QX}{rest:List Stmt}
theorem Zq3 {iA:Addr}{is:List Int}{k:Nat}{st:Int} (hh:A.handled=none) (hlen:is.length<=68) (g1:m (S "items")=some (.ref iA)) (g2:m (S "cut")=some (.int (k:Int))) (hi:hp iA=some (.list (is.map .int))) (hiL:iA≠L) (c2:hp (L + 2)=some (.cell (some (.int st))))
  (hK:∀ oA tA (av:List AV) (bs:List Int) hp',hp' oA=some (.list av)->oA≠L->hp' tA=some (.list (bs.map .int))->tA≠L->av.length<=69->bs.length<=69->(∀ y ∈ av,ItO hp' L L y)->Hp.Le hp hp'->EXs (model PW W0) A E B (lEnv L) rest (upd (upd m (S "other") (.ref tA)) (S "one") (.ref oA)) hp' KK) :
  EXs (model PW W0) A E B (lEnv L) (lawS 5 :: rest) m hp KK:=by
 have s1:(is.map AV.int).length<=sizeLine:=by rw[List.length_map];exact sz' (by (exact Nat.le_trans ‹_› (by decide)))
 refine Zac (Za4 (names:=[S "one",S "other"]) hh (Zan (Zab (Zad (Zbt (Zab (Zah (Zae ⟨sz rfl,λa ha haL=>?_⟩))))))));have l1:=(Hp.Le.refl hp).set ha (.list [.int 8]);refine Zol (cl:=[(S "strange",L + 2)]) rfl (by decide) (Zbx (Zaa g1 (Zaa g2 ⟨iA,is.map .int,none,some (k:Int),rfl,.inl ⟨l1 _ _ hi,hiL⟩,s1,rfl,rfl,λb hb hbL=>?_⟩)));rw[show pick (is.map AV.int) none (some (k:Int))=(is.take k).map .int from by rw[List.map_take];exact Zi9];have lt:(is.take k).length<=68:=by rw[List.length_take];lia
 have l2:=l1.set (l1.none hb) (.list ((is.take k).map .int));refine Goes.listP JO (λL L' acc i zs h h' j kp=>⟨j.1,j.2.1,λy hy=>?_⟩) (λL acc h=>⟨Nat.le_refl _,by decide,λy hy=>by cases hy⟩) (λL acc i zs h j=>Nat.le_trans j.1 (by have:=j.2.1;(exact Nat.le_trans ‹_› (by decide)))) (Zdm (by decide)) (.list hh (.inl ⟨Hp.ss ..,hbL⟩) (.refl _)) (λacc C m₂ hp₂ i zs hi hC hCL hac hacc le j=>?_) λacc zs hp' h1 h2 le h3 j=>?_
 .rcases j.2.2 y hy with h | ⟨l,xs,e,g,n1,n2⟩
  .exact .inl h
  .have:=kp _ _ n1 n2 g;exact .inr ⟨l,xs,e,this.1,this.2,n2⟩
 .rw [List.length_map]at hi;rw[Zm5 hi];generalize (is.take k).getD i 0=x;have c3:=l2 _ _ c2;have i70:i < 70:=by (exact F20 0x465847840445750 0x111 rfl lt hi)
  refine Zak (Ze6 ?_);rw[if_pos rfl];refine Zht (Zaf (Zaa (v:=.int x) (by first | assumption | rfl) (Zb8 (c:=L + 2) rfl (le _ _ (Hp.snt (cj2 L) c3)) (Hp.ne_of c3 hC) (Ze8 (Zaj ?_)))));cases x == st with
  | true=>
   rw[if_pos rfl];refine Zbt (Zab (Zaa (v:=.int x) (by first | assumption | rfl) (Zae ⟨sz rfl,λd hd hdC=>⟨(Hp.Le.refl _).set hd _,j.push ((Hp.Le.refl _).set hd _) i70 (.inr ⟨d,_,rfl,Hp.ss ..,hdC,Ne.symm (Hp.ne_of hacc hd)⟩)⟩⟩)))
  | false=>
   rw[if_neg Bool.false_ne_true];exact Zaa (v:=.int x) (by first | assumption | rfl) ⟨.refl _,j.push (.refl _) i70 (.inl ⟨_,rfl⟩)⟩
 .have a5:=le _ _ (Hp.snt (Hp.ne_of (Hp.ss ..) hb) (Hp.ss hp a (.list [.int 8])));have l3:=l2.trans le;have jl:zs.length<=68:=by have:=j.1;rw[List.length_map]at this;(exact Nat.le_trans ‹_› ‹_›)
  refine Zdb (xs:=[.int 8]) (ys:=zs) (.inl ⟨a5,haL⟩) (.inl ⟨h3,h2⟩) (by show 1 + _<=_;lia) λc hc hcL=>?_;show EVS _ _ _ _ _ _ _ (hp'.set c (.list (AV.int 8 :: zs))) _;have l4:=l3.set (l3.none hc) (.list (AV.int 8 :: zs));have c4:(hp'.set c (.list (AV.int 8 :: zs))) c=some (.list (AV.int 8 :: zs)):=Hp.ss ..;have it4:∀ y ∈ AV.int 8 :: zs,ItO (hp'.set c (.list (AV.int 8 :: zs))) L L y:=λy hy=>by
   rw[List.mem_cons]at hy;rcases hy with hy | hy
   .exact .inl ⟨8,hy⟩
   .rcases j.2.2 y hy with h | ⟨l,xs,e,g,n1,n2⟩
    .exact .inl h
    .exact .inr ⟨l,xs,e,Hp.snt (Hp.ne_of g hc) g,n1,n1⟩
  have al:(AV.int 8 :: zs).length<=69:=by rw[List.length_cons];(exact Nat.lt_of_le_of_lt ‹_› (by decide))
  generalize hp'.set c (.list (AV.int 8 :: zs))=hp4 at l4 c4 it4 ⊢;generalize AV.int 8 :: zs=av at c4 it4 al ⊢;refine Zab (Zad (Zbt (Zab (Zah (Zae ⟨sz rfl,λd hd hdL=>?_⟩)))));have l5:=(Hp.Le.refl hp4).set hd (.list [.int 8]);refine Zbx (Zaa g1 (Zaa g2 ⟨iA,is.map .int,some (k:Int),none,rfl,.inl ⟨l5 _ _ (l4 _ _ hi),hiL⟩,s1,rfl,rfl,λe he heL=>?_⟩));rw[show pick (is.map AV.int) (some (k:Int)) none=(is.drop k).map .int from by rw[List.map_drop];exact Zfj];have l6:=l5.set (l5.none he) (.list ((is.drop k).map .int));refine Zdb (xs:=[.int 8]) (ys:=(is.drop k).map .int) (.inl ⟨Hp.snt (Hp.ne_of (Hp.ss ..) he) (Hp.ss ..),hdL⟩) (.inl ⟨Hp.ss ..,heL⟩) (by rw[List.length_map,List.length_drop];show 1 + _<=_;lia) λf hf hfL=>?_;have l7:=l6.set (l6.none hf) (.list ([.int 8] ++ (is.drop k).map .int));refine Zae ⟨sz rfl,_,rfl,rfl,Zas (Zas (Zav ?_))⟩;refine hK c f av (8 :: is.drop k) _ (l7 _ _ c4) hcL (Hp.ss ..) hfL al (by rw[List.length_cons,List.length_drop];(exact F20 0x4556705445850870a 0x1110 rfl hlen)) (λy hy=>(it4 y hy).le l7) (l4.trans l7)

end
noncomputable def jkP (hd:Int) (x:Nat):Bool:=(hd / 2 ^ x) % 2 == 1
noncomputable def jkF (hd:Int):List Int:=((List.range 7).filter (jkP hd)).map λ(x:Nat)=>(x:Int)
theorem Zns (hd:Int):(jkF hd).length<=7:=by unfold jkF;rw[List.length_map];exact Nat.le_trans (List.length_filter_le _ _) (by rw[List.length_range];exact Nat.le_refl _)
theorem Zk4:∀ i:Nat,i < 7->(2:Int) ^ i≠0/\0<=(2:Int) ^ i/\((2:Int) ^ i).natAbs < 1073741824:=by decide
theorem Zk5:∀ i:Nat,i < 7->¬ Builtin.Int.intTooBig (((Builtin.Int.intBits 2:Nat):Int) * (i:Int))=true:=by decide
theorem Zhr {B:Shared}{hp:Hp}{L:Addr}:∀ xs:List Int,RDs B hp L (xs.map .int) (xs.map .int)
 | []=>.nil
 | x :: xs=>.cons (.int x) (Zhr xs)
theorem Zgi (xs:List Int):SeqAt.shaped (.list (xs.map .int))=true:=by
 have h1:∀ xs:List Int,PyData.canLayAll0 (xs.map .int)=true:=by
  intro xs;induction xs with
  | nil=>rfl
  | cons x xs ih=>simp only[List.map_cons,PyData.canLayAll0,ih,Bool.and_true];rfl
 have h2:∀ xs:List Int,PyData.depthAll (xs.map .int)<=2:=by
  intro xs;induction xs with
  | nil=>simp[PyData.depthAll]
  | cons x xs ih=>simp only[List.map_cons,PyData.depthAll,PyData.depth];assumption
 unfold SeqAt.shaped;rw[Bool.and_eq_true,decide_eq_true_iff];refine ⟨?_,?_⟩
 .simp only [PyData.canLay0];exact h1 xs
 .have:=h2 xs;simp only[PyData.depth];(exact Nat.lt_of_le_of_lt ‹_› (by decide))
section
variable {L:Addr}{KK:QX}{rest:List Stmt}
theorem Zob {n:Nat}{Q:QV} (hn:n < 7) (h:Q (.int (2 ^ n)) hp):OP2 (model PW W0) A E B env (binaryOp .Pow) m (.int 2) (.int (n:Int)) hp Q:=λs u v r hu hv=>by
 simp only[VR]at hu hv;obtain ⟨t,rfl⟩:=hu;obtain ⟨t',rfl⟩:=hv;by_cases h0:n=0
 .subst h0;exact PySem.AutoIntOps.pow_0 (by decide) (by decide) ⟨_,hp,r.toks _,.refl _,VR_int,h⟩
 .refine PySem.AutoIntOps.pow_4 (by (exact Int.natCast_nonneg _)) (by rw[beq_iff_eq];(exact F10 0x47392047620 0x11101 rfl h0)) (by decide) (by decide) (Zk5 n hn) ⟨_,hp,r.toks _,.refl _,VR_int,?_⟩;rw[Int.toNat_natCast];exact h
theorem Zq2 {hd:Int} (G:Gnd (KW W0) B) (hh:A.handled=none) (c1:hp (L + 1)=some (.cell (some (.int hd)))) (c5:hp (L + 5)=some (.cell none))
  (hK:∀ jA hp',hp' jA=some (.list ((jkF hd).map .int))->jA≠L->hp' (L + 5)=some (.cell (some (.ref jA)))->(∀ z o,z≠L + 5->hp z=some o->hp' z=some o)->EXs (model PW W0) A E B (lEnv L) rest m hp' KK) :
  EXs (model PW W0) A E B (lEnv L) (lawS 6 :: rest) m hp KK:=by
 refine Zac (Zdc (c:=L + 5) rfl (cj5 L) (Zol (cl:=[(S "head",L + 1)]) rfl (by decide) ?_));refine Zb9 (Zat G (Zb5 W0) Zbr (by decide) (λ_=>Zc7) ⟨rfl,Zab (Zah (Zae (Zd4 λr ob hr hrL ro=>?_)))⟩);have le1:=(Hp.Le.refl hp).set hr (.obj ob);refine Goes.one (p:=jkP hd) (e:=λ(x:Nat)=>.int (x:Int)) (Zdm (by decide)) (.range hh (Hp.ss ..) hrL ro (by decide) (by decide) (by decide) (by decide)) (by decide) (λC m₂ hp₂ i hi hC hCL le=>Zak ⟨.refl _,?_⟩) λD hD hDL=>?_
 .have hi7:i < 7:=hi;obtain ⟨t1,t2,t3⟩:=Zk4 i hi7;have c1':=le1 _ _ c1;generalize hm2:upd m₂ _ _=m₃;have hm:m₃ (S "x")=some (.int (0 + (i:Int))):=by subst hm2;(first | assumption | rfl)
  rw[Int.zero_add]at hm;refine Zl9 (Zaf (Zad (Zad (Zb8 (c:=L + 1) rfl (le _ _ (Hp.snt (cj1 L) c1')) (Hp.ne_of c1' hC) (Zad (Zah (Zaa hm (Zob hi7 (Zcq t1 t3 (Zah (Zcz (by decide) (Zah (Ze8 (Zaj ?_))))))))))))));rw[Zjv _ t2,Zcx _ (by decide)];exact ⟨rfl,.refl _,λ_=>Zaa hm ⟨rfl,.refl _⟩⟩
 .have D0:=le1.none hD;have c3:=le1 _ _ c5;have dc:D≠L + 5:=Ne.symm (Hp.ne_of c3 hD);refine ⟨none,Hp.snt dc.symm c3,hK D _ (Hp.snt dc ?_) hDL (Hp.ss ..) λz o hz e=>Hp.snt hz ((le1.set D0 _) _ _ e)⟩;rw[Hp.ss];unfold jkF;rw[List.map_map];rfl
theorem Zq1 {oA tA jA:Addr}{av:List AV}{bs js:List Int} (G:Gnd (KW W0) B) (hh:A.handled=none) (hroom:A.depth + 6 < recursionLimit) (hu:A.units + 90 < cLine) (hX:CodeHd B.heap 271 269) (hb:∃ mg,B.heap.Ns mainGlobals mg/\B.heap.BuiltinsAt mg 269)
  (hP:hp 269=some (.obj (tabObj #[]))) (hPL : 269≠L) (g1:m (S "one")=some (.ref oA)) (g2:m (S "other")=some (.ref tA)) (hj:hp jA=some (.list (js.map .int))) (hjL:jA≠L) (c5:hp (L + 5)=some (.cell (some (.ref jA)))) (ht:hp tA=some (.list (bs.map .int))) (htL:tA≠L) (hjs:js.length<=7) (hbs:bs.length < 200)
  (hK:∀ x dx hp',hp x=none->hp dx=none->M9 hp' L x dx (.ref oA) (.ref tA) bs (jkB bs js)->(∃ ps,hp' 269=some (.obj (tabObj ps)))->(∀ z o,z≠L->z≠269->hp z=some o->hp' z=some o)->EXs (model PW W0) A E B (lEnv L) rest (upd m (S "matcher") (.ref x)) hp' KK) :
  EXs (model PW W0) A E B (lEnv L) (lawS 7 :: rest) m hp KK:=by
 refine Zac (Zaq (Zhu G (by kernel_rfl) (Zdd G (g_SM W0) (λ_=>VR_ref) ⟨rfl,Zab (Zht (Zaf (Zb8 (c:=L + 5) rfl c5 (cj5 L) (Zbt (Zae ⟨sz rfl,λa ha haL=>Zm9 (.list (.own (Hp.snt (Hp.ne_of hj ha) hj) hjL) (Zhr _)) (.list (.own (Hp.ss ..) haL) .nil) (Zgi _) rfl (by (exact ul ‹_› (by decide))) (Zaj ?_)⟩)))))⟩)));have le1:=(Hp.Le.refl hp).set ha (.list []);have hP1:=le1 _ _ hP;cases hc:(!PyData.eqv (.list (js.map .int)) (.list [])) with
 | false=>
  rw[if_neg Bool.false_ne_true];have:js=[]:=by
   cases js with
   | nil=>rfl
   | cons j js=>cases hc
  subst this;refine Zch (Zab (Zaa g1 (Zab (Zaa g2 (Zae ?_)))));exact Znc G hh hroom hu .none rfl (.list (.inl ⟨le1 _ _ ht,htL⟩)) hbs (by decide) λhp' x dx hx hdx M kp _=>hK x dx hp' (le1.none hx) (le1.none hdx) M ⟨_,kp _ _ hPL hP1⟩ λz o hz _ e=>kp z o hz (le1 _ _ e)
 | true=>
  rw[if_pos rfl];refine Zkv (P:=269) (c:=271) (clos:=[(S "junk",L + 5)]) hX hb rfl rfl hP1 hPL (by trivial) rfl rfl rfl λhp2 f ps' F hf hfL hP2 k2=>?_;have hF:JunkF B hp2 L f jA js:=⟨L + 5,F,k2 _ _ (λe=>by rw[<-e,c5]at hP;cases hP) (le1 _ _ c5),cj5 L,.inl ⟨k2 _ _ (λe=>by rw[<-e,hj]at hP;cases hP) (le1 _ _ hj),hjL⟩⟩;have nn:∀ z,hp2 z=none->hp z=none:=λz e=>by
   cases h:hp z with
   | none=>rfl
   | some o=>
    by_cases hz:z=269
    .rw [hz,hP2]at e;cases e
    .rw [k2 _ _ hz (le1 _ _ h)]at e;cases e
  refine Zab (Zaa g1 (Zab (Zaa g2 (Zae ?_))));exact Znc G hh hroom hu (.fn hF) rfl (.list (.inl ⟨k2 _ _ (λe=>by rw[<-e,ht]at hP;cases hP) (le1 _ _ ht),htL⟩)) hbs (by (exact Nat.le_trans ‹_› (by decide))) λhp' x dx hx hdx M kp _=>hK x dx hp' (nn x hx) (nn dx hdx) M ⟨_,kp _ _ hPL hP2⟩ λz o hz hz2 e=>kp z o hz (k2 z o hz2 (le1 _ _ e))
end
theorem Zer:seqSlot? (.type "list") (dunderI "add")=pure (some (.builtin "list.__iadd__")):=PySem.seqSlot_of PySem.F.slot_list_iadd.lookup (by decide +kernel)
theorem Zgu:fillsInplaceSlot (.type "list") "add" (Operator.Add == .Add)=pure false:=by unfold fillsInplaceSlot;show (typeLookup (.type "list") (dunderI "add") >>= λfi=>pure (fi.isSome && !isSeqSlot fi))=pure false;rw[PySem.F.slot_list_iadd.lookup,pure_bind];rw[show isSeqSlot (some (.builtin "list.__iadd__"))=true from by decide +kernel];rfl
section
theorem Zc3 {s:Shared}{a b:Value}{Q:ET} (ha:s.TypeIs a "list") (hb:s.TypeIs b "list") (hc:wpAny (model PW W0) A (call (.builtin "list.__iadd__") [a,b]) Q E s):wpAny (model PW W0) A (inplaceOp .Add a b) Q E s:=by unfold inplaceOp;refine wpAny_holding ?_;refine wB (wpAny_typeOf ha (wB (wpAny_of_eq Zgu ?_)));show wpAny _ A (if false=true then _ else _) Q E s;rw[if_neg Bool.false_ne_true];refine wB (wpAny_binaryOp1_none (nm := "add") ha hb noFill_list_add ?_);refine wB (wpAny_of_eq Zer ?_);exact wB (wpAny_rule hc)
theorem Zmd {a b:Addr}{xs ys:List AV}{Q:QV} (ha:hp a=some (.list xs)) (hL:a≠env.locals) (hb:hp b=some (.list ys)) (hLb:b≠env.locals) (hsz:xs.length + ys.length<=5000)
  (h:Q (.ref a) (hp.set a (.list (xs ++ ys)))):OP2 (model PW W0) A E B env (inplaceOp .Add) m (.ref a) (.ref b) hp Q:=λs u v r hu hv=>by
 refine hide λ_ Z=>?_;simp only[VR]at hu hv;subst hu;subst hv;obtain ⟨vs,n,hl,hvs⟩:=r.at ha hL;obtain ⟨us,n',hl',hus⟩:=r.at hb hLb;apply Z;clear Z;have e1:vs.size=xs.length:=by rw[<-Array.length_toList];exact hvs.length
 have e2:us.size=ys.length:=by rw[<-Array.length_toList];exact hus.length
 have hz:=sz' (n:=vs.size + us.size) (by lia);refine Zc3 ⟨_,hl,rfl⟩ ⟨_,hl',rfl⟩ (call_meets PySem.F.slot_list_iadd ⟨_,hl,rfl⟩ PySem.F.entry_list_iadd (PySem.F.args_list_iadd_2 _ _) (PySem.AutoSeq1.list___iadd___list_list_0 a vs n b us n' ?_ (by (exact F30 0x975987050 0x11 rfl hz)) (by (exact Nat.le_trans ‹_› (by decide)))) ⟨hl,hl',?_⟩)
 .rw [Bool.and_eq_true];rintro ⟨_,h2⟩;unfold Builtin.List.listTooLong at h2;rw[decide_eq_true_iff]at h2
  (exact F30 0x3870940987050 0x11 rfl hz h2)
 have e3:(s.heap.update a (Obj.mapSeq λx=>x ++ us)).get? a=some _:=Heap.get?_update_self _ hl (by rfl);have t:=r.turn (a:=a) (Hp.snt hL ha) (Heap.SameBut.update s.heap a (Obj.mapSeq λx=>x ++ us)) (.list (xs ++ ys)) (λle=>⟨vs ++ us,_,e3,by rw[Array.toList_append];exact (hvs.mono le).append (hus.mono le)⟩) s.toks;rw[Hp.sc _ _ _ (Ne.symm hL)]at t;exact mkV (av:=.ref a) t.1 t.2 VR_ref h
end
noncomputable abbrev Win:=Int × Int × Int × Int
noncomputable def wAV (x:Win):AV:=.tup [.int x.1,.int x.2.1,.int x.2.2.1,.int x.2.2.2]
noncomputable def WOk (x:Win):Prop:=(0<=x.1/\x.1<=200)/\(0<=x.2.1/\x.2.1<=200)/\(0<=x.2.2.1/\x.2.2.1<=200)/\0<=x.2.2.2/\x.2.2.2<=200
section
variable {A:Around}{E:ET}{B:Shared}{m:Loc}{hp:Hp}{L:Addr}{KK:QX}{rest:List Stmt}
theorem Zq0 {sA:Addr}{ns:List Int} (G:Gnd (KW W0) B) (hlen:ns.length<=63) (g0:m (S "script")=some (.ref sA)) (hs:hp sA=some (.list (ns.map .int))) (hsL:sA≠L) (c3:hp (L + 3)=some (.cell none))
  (hK:∀ nA hp' (ms:List Int),hp' nA=some (.list (ms.map .int))->nA≠L->1<=ms.length->ms.length<=68->hp' (L + 3)=some (.cell (some (.ref nA)))->(∀ z o,z≠L + 3->hp z=some o->hp' z=some o)->EXs (model PW W0) A E B (lEnv L) rest m hp' KK) :
  EXs (model PW W0) A E B (lEnv L) (lawS 8 :: rest) m hp KK:=by
 refine Zac (Zdc (c:=L + 3) rfl (cj3 L) (Zad (Zaa g0 (Zbt (Zab (Zao (Zat G (Zbc W0) Zaz (by decide) (λ_=>Zbi) ⟨rfl,Zab (Zaa g0 (Zae (Zbe (.inl ⟨hs,hsL⟩) (by rw[List.length_map];exact sz' (by (exact Nat.le_trans ‹_› (by decide)))) (Zab (Zah (Zab (Zah (Zab (Zah (Zab (Zah (Zae ⟨sz rfl,λb hb hbL=>?_⟩))))))))))))⟩)))))));rw[List.length_map];have l1:=(Hp.Le.refl hp).set hb (.list [.int ns.length,.int 0,.int 4,.int 1,.int 6]);refine Zdb (xs:=ns.map .int) (.inl ⟨l1 _ _ hs,hsL⟩) (.inl ⟨Hp.ss ..,hbL⟩) (by rw[List.length_map];show ns.length + 5<=5000;lia) λc hc hcL=>?_;have l2:=l1.set (l1.none hc) (.list (ns.map AV.int ++ [.int ns.length,.int 0,.int 4,.int 1,.int 6]));have k3:=l1 _ _ c3;have cc:c≠L + 3:=Ne.symm (Hp.ne_of k3 hc);refine ⟨none,Hp.snt cc.symm k3,hK c _ (ns ++ [(ns.length:Int),0,4,1,6]) (Hp.snt cc ?_) hcL (by rw[List.length_append];show 1<=_ + 5;(exact Nat.succ_pos _)) (by rw[List.length_append];show _ + 5<=68;(exact F10 0x445547053f5750 0x11 rfl hlen)) (Hp.ss ..) λz o hz e=>Hp.snt hz (l2 _ _ e)⟩;rw[Hp.ss,List.map_append];rfl
theorem Zqz {oA tA:Addr}{av bv:List AV} (G:Gnd (KW W0) B) (hh:A.handled=none) (g1:m (S "one")=some (.ref oA)) (g2:m (S "other")=some (.ref tA)) (ho:hp oA=some (.list av)) (hoL:oA≠L) (ht:hp tA=some (.list bv)) (htL:tA≠L) (h1:av.length<=69) (h2:bv.length<=69)
  (hK:EXs (model PW W0) A E B (lEnv L) rest (upd (upd m (S "lb") (.int bv.length)) (S "la") (.int av.length)) hp KK) :
  EXs (model PW W0) A E B (lEnv L) (lawS 9 :: rest) m hp KK:=by
 refine Zac (Za4 (names:=[S "la",S "lb"]) hh (Zan (Zab (Zao (Zat G (Zbc W0) Zaz (by decide) (λ_=>Zbi) ⟨rfl,Zab (Zaa g1 (Zae (Zbe (.inl ⟨ho,hoL⟩) (sz' (by (exact Nat.le_trans ‹_› (by decide)))) ?_)))⟩)))));exact Zab (Zao (Zat G (Zbc W0) Zaz (by decide) (λ_=>Zbi) ⟨rfl,Zab (Zaa g2 (Zae (Zbe (.inl ⟨ht,htL⟩) (sz' (by (exact Nat.le_trans ‹_› (by decide)))) (Zae ⟨sz rfl,_,rfl,rfl,Zas (Zas (Zav hK))⟩))))⟩))
theorem Zpj {la lb:Nat} (h1:la<=69) (h2:lb<=69) (ga:m (S "la")=some (.int (la:Int))) (gb:m (S "lb")=some (.int (lb:Int)))
  (hK:∀ wA hp' (ws:List Win),hp wA=none->wA≠L->hp' wA=some (.list (ws.map wAV))->ws.length=6->(∀ x ∈ ws,WOk x)->Hp.Le hp hp'->EXs (model PW W0) A E B (lEnv L) rest (upd m (S "windows") (.ref wA)) hp' KK) :
  EXs (model PW W0) A E B (lEnv L) (lawS 10 :: rest) m hp KK:=by
 refine Zac (Zaq (Zbt (Zab (Zan (Zab (Zah (Zab (Zaa ga (Zab (Zah (Zab (Zaa gb (Zae ⟨sz rfl,?_⟩)))))))))))));refine Zab (Zan (Zab (Zah (Zab (Zaa ga (Zab (Zah (Zab (Zaa gb (Zae ⟨sz rfl,?_⟩))))))))));refine Zab (Zan (Zab (Zah (Zab (Zaa ga (Zab (Zah (Zab (Zad (Zaa gb (Zah (Zap (Zae ⟨sz rfl,?_⟩)))))))))))));refine Zab (Zan (Zab (Zah (Zab (Zad (Zaa ga (Zah (Zap (Zab (Zah (Zab (Zaa gb (Zae ⟨sz rfl,?_⟩)))))))))))));refine Zab (Zan (Zab (Zah (Zab (Zah (Zab (Zah (Zab (Zad (Zaa gb (Zah (Zap (Zae ⟨sz rfl,?_⟩)))))))))))));refine Zab (Zan (Zab (Zah (Zab (Zah (Zab (Zad (Zaa gb (Zah (Zap (Zab (Zad (Zaa gb (Zah (Zap (Zae ⟨sz rfl,Zae ⟨sz rfl,λa ha haL=>?_⟩⟩))))))))))))))));refine hK a _ [(0,(la:Int),0,(lb:Int)),(2,(la:Int),0,(lb:Int)),(2,(la:Int),0,(lb:Int) + 1),(2,(la:Int) + 1,0,(lb:Int)),(2,4,0,(lb:Int) + 2),(0,1,(lb:Int) + 1,(lb:Int) + 2)] ha haL (Hp.ss ..) rfl (λx hx=>?_) ((Hp.Le.refl hp).set ha _);simp only[List.mem_cons,List.not_mem_nil,or_false]at hx;rcases hx with rfl | rfl | rfl | rfl | rfl | rfl <;> (unfold WOk;simp only;lia)
end
noncomputable def lB (i:Nat):Stmt:=(kids (lawS 11)).getD i (.Pass ⟨0,0,0,0⟩)
noncomputable def numW (ms:List Int) (i:Nat) (k:Nat):Int:=ms.getD ((i + (k:Int)) % (ms.length:Int)).toNat 0
theorem Zhd (a:Int) {n:Nat} (h:n<=69) : 0<=a % ((n:Int) + 3)/\a % ((n:Int) + 3)<=200:=by have h1:=Int.emod_nonneg a (show ((n:Int) + 3)≠0 by (exact F10 0x43473092 0x1 rfl));have h2:=Int.emod_lt_of_pos a (show (0:Int) < (n:Int) + 3 by (exact F10 0x34730047 0x1 rfl));lia
section
variable {A:Around}{E:ET}{B:Shared}{m:Loc}{hp:Hp}{L:Addr}{KK:QX}{rest:List Stmt}
theorem Zqj {nA:Addr}{ms:List Int}{i:Nat} (G:Gnd (KW W0) B) (hh:A.handled=none) (hm1 : 1<=ms.length) (hm2:ms.length<=68) (hi:i < 68) (c3:hp (L + 3)=some (.cell (some (.ref nA)))) (hn:hp nA=some (.list (ms.map .int))) (c4:hp (L + 4)=some (.cell (some (.int i))))
  (hK:∀ hp',Hp.Le hp hp'->EXs (model PW W0) A E B (lEnv L) rest (upd (upd (upd (upd m (S "w") (.int (numW ms i 0))) (S "x") (.int (numW ms i 1))) (S "y") (.int (numW ms i 2))) (S "z") (.int (numW ms i 3))) hp' KK) (hnL:nA≠L) :
  EXs (model PW W0) A E B (lEnv L) (lB 0 :: rest) m hp KK:=by
 refine Zac (Zbk (Zol (cl:=[(S "t",L + 4),(S "numbers",L + 3)]) rfl (by decide) ?_));refine Zb9 (Zat G (Zb5 W0) Zbr (by decide) (λ_=>Zc7) ⟨rfl,Zab (Zah (Zae (Zd4 λr ob hr hrL ro=>?_)))⟩);have le1:=(Hp.Le.refl hp).set hr (.obj ob);refine Goes.one (p:=λ_=>true) (e:=λk=>.int (numW ms i k)) (Zdm (by decide)) (.range hh (Hp.ss ..) hrL ro (by decide) (by decide) (by decide) (by decide)) (by decide) (λC m₂ hp₂ k hk hC hCL le=>Zak ⟨.refl _,Ze6 ⟨rfl,.refl _,λ_=>?_⟩⟩) λacc ha haL=>?_
 .have hk4:k < 4:=hk;generalize hm3:upd m₂ _ _=m₃;have hm:m₃ (S "k")=some (.int (0 + (k:Int))):=by subst hm3;(first | assumption | rfl)
  rw[Int.zero_add]at hm;have up:∀ z o,z≠L->hp z=some o->hp₂ z=some o/\z≠C:=λz o hz e=>⟨le _ _ (Hp.snt hz (le1 _ _ e)),Hp.ne_of (le1 _ _ e) hC⟩;have u3:=up _ _ (cj3 L) c3;have u4:=up _ _ (cj4 L) c4;have un:=up _ _ hnL hn;have b1:=Int.emod_nonneg ((i:Int) + k) (show (ms.length:Int)≠0 by lia);have b2:=Int.emod_lt_of_pos ((i:Int) + k) (show (0:Int) < ms.length by (exact Int.ofNat_lt.mpr ‹_›));have ei:(ms.map AV.int)[(((i:Int) + k) % (ms.length:Int)).toNat]?=some (.int (numW ms i k)):=by unfold numW;rw[List.getD_eq_getElem?_getD,List.getElem?_map,List.getElem?_eq_getElem (by (exact Zgh ‹_› ‹_›))];rfl
  refine Zai (Zb8 (c:=L + 3) rfl u3.1 u3.2 (Zad (Zad (Zb8 (c:=L + 4) rfl u4.1 u4.2 (Zaa hm (Zap ?_))))));refine Zao (Zat G (Zbc W0) Zaz (by decide) (λ_=>Zbi) ⟨rfl,Zab (Zb8 (c:=L + 3) rfl u3.1 u3.2 (Zae (Zbe (.inl un) (by rw[List.length_map];exact sz' (by (exact Nat.le_trans ‹_› (by decide)))) ?_)))⟩);rw[List.length_map];refine Zcz (by lia) ?_;rw[Zcx _ (by (exact Int.natCast_nonneg _))];exact Zar (.inl un) b1 (by lia) ei ⟨rfl,.refl _⟩
 .have h4:((List.range ((4:Int) - 0).toNat).filter λ_=>true).map (λk=>AV.int (numW ms i k))=[.int (numW ms i 0),.int (numW ms i 1),.int (numW ms i 2),.int (numW ms i 3)]:=rfl;rw[h4];exact Zeo hh rfl rfl rfl (.inl ⟨Hp.ss ..,haL⟩) (Zam (Zak (Zam (Zak (Zam (Zak (Zam (Zak (Zav (hK _ (le1.set (le1.none ha) _)))))))))))
theorem Zoz {la lb:Nat}{wA:Addr}{ws:List Win}{a b c d:Int} (G:Gnd (KW W0) B) (hh:A.handled=none) (h1:la<=69) (h2:lb<=69) (ga:m (S "la")=some (.int (la:Int))) (gb:m (S "lb")=some (.int (lb:Int))) (gw:m (S "windows")=some (.ref wA))
  (k1:m (S "w")=some (.int a)) (k2:m (S "x")=some (.int b)) (k3:m (S "y")=some (.int c)) (k4:m (S "z")=some (.int d)) (hw:hp wA=some (.list (ws.map wAV))) (hwL:wA≠L) (wl:ws.length<=200) (ok:∀ x ∈ ws,WOk x)
  (hK:∀ m' hp' (ws':List Win),m' (S "windows")=some (.ref wA)->(∀ y,y ∉ ["w", "x", "y", "z", "windows"]->m' (S y)=m (S y))->hp' wA=some (.list (ws'.map wAV))->ws'.length=ws.length + 2->(∀ x ∈ ws',WOk x)->(∀ z o,z≠wA->hp z=some o->hp' z=some o)->EXs (model PW W0) A E B (lEnv L) rest m' hp' KK) :
  EXs (model PW W0) A E B (lEnv L) (lB 1 :: lB 2 :: rest) m hp KK:=by
 have na:((la:Int) + 3)≠0:=by lia
 have nb:((lb:Int) + 3)≠0:=by lia
 refine Zac (Zbk (Zan (Zab (Zad (Zaa k1 (Zad (Zaa ga (Zah (Zap (Zcz na ?_))))))))));refine Zab (Zad (Zaa k2 (Zad (Zaa ga (Zah (Zap (Zcz na ?_)))))));refine Zab (Zad (Zaa k3 (Zad (Zaa gb (Zah (Zap (Zcz nb ?_)))))));refine Zab (Zad (Zaa k4 (Zad (Zaa gb (Zah (Zap (Zcz nb (Zae ⟨sz rfl,?_⟩))))))));rw[Zcx _ (by (exact Int.natCast_nonneg _)),Zcx _ (by (exact Int.natCast_nonneg _)),Zcx _ (by (exact Int.natCast_nonneg _)),Zcx _ (by (exact Int.natCast_nonneg _))];have ha:=Zhd a h1;have hb:=Zhd b h1;have hc:=Zhd c h2;have hd:=Zhd d h2;refine Zci hh rfl rfl rfl (Zam (Zak (Zam (Zak (Zam (Zak (Zam (Zak (Zav ?_)))))))));generalize a % ((la:Int) + 3)=a at ha ⊢;generalize b % ((la:Int) + 3)=b at hb ⊢;generalize c % ((lb:Int) + 3)=c at hc ⊢;generalize d % ((lb:Int) + 3)=d at hd ⊢;generalize hm1:upd (upd (upd (upd m _ _) _ _) _ _) _ _=m1;have p1:m1 (S "w")=some (.int a):=by subst hm1;(first | assumption | rfl)
 have p2:m1 (S "x")=some (.int b):=by subst hm1;(first | assumption | rfl)
 have p3:m1 (S "y")=some (.int c):=by subst hm1;(first | assumption | rfl)
 have p4:m1 (S "z")=some (.int d):=by subst hm1;(first | assumption | rfl)
 have p5:m1 (S "windows")=some (.ref wA):=by subst hm1;(first | assumption | rfl)
 have p6:∀ y,y ∉ ["w", "x", "y", "z", "windows"]->m1 (S y)=m (S y):=λy hy=>by subst hm1;exact updO hy (updO hy (updO hy (updO hy rfl)))
 clear hm1;refine Zac (Zbd p5 (Zbt (Zab (Zan (Zab (Zaa p1 (Zab (Zaa p2 (Zab (Zaa p3 (Zab (Zaa p4 (Zae ⟨sz rfl,?_⟩)))))))))))));refine Zab (Zan (Zab (Zao (Zat G (Zfo W0) Zd0 (by decide) (λ_=>Zbi) ⟨rfl,Zab (Zaa p1 (Zab (Zaa p2 (Zae (Zhv hh ?_)))))⟩))));refine Zab (Zao (Zat G (Zmt W0) Zkb (by decide) (λ_=>Zbi) ⟨rfl,Zab (Zaa p1 (Zab (Zaa p2 (Zae (Znb hh ?_)))))⟩));refine Zab (Zao (Zat G (Zfo W0) Zd0 (by decide) (λ_=>Zbi) ⟨rfl,Zab (Zaa p3 (Zab (Zaa p4 (Zae (Zhv hh ?_)))))⟩));refine Zab (Zao (Zat G (Zmt W0) Zkb (by decide) (λ_=>Zbi) ⟨rfl,Zab (Zaa p3 (Zab (Zaa p4 (Zae (Znb hh (Zae ⟨sz rfl,Zae ⟨sz rfl,λe he heL=>?_⟩⟩))))))⟩));have i1 : 0<=(if b < a then b else a)/\(if b < a then b else a)<=200:=by split <;> assumption
 have i2 : 0<=(if b > a then b else a)/\(if b > a then b else a)<=200:=by split <;> assumption
 have i3 : 0<=(if d < c then d else c)/\(if d < c then d else c)<=200:=by split <;> assumption
 have i4 : 0<=(if d > c then d else c)/\(if d > c then d else c)<=200:=by split <;> assumption
 generalize (if b < a then b else a)=q1 at i1 ⊢;generalize (if b > a then b else a)=q2 at i2 ⊢;generalize (if d < c then d else c)=q3 at i3 ⊢;generalize (if d > c then d else c)=q4 at i4 ⊢;have we:wA≠e:=Hp.ne_of hw he;refine Zmd (ys:=[wAV (a,b,c,d),wAV (q1,q2,q3,q4)]) (Hp.snt we hw) hwL (Hp.ss ..) heL (by rw[List.length_map];show _ + 2<=_;lia) ?_;refine hK _ _ (ws ++ [(a,b,c,d),(q1,q2,q3,q4)]) (by first | assumption | rfl) (λy hy=>updO hy (p6 y hy)) (by rw[Hp.ss,List.map_append];rfl) (by rw[List.length_append];rfl) (λx hx=>?_) λz o hz ez=>Hp.snt hz (Hp.snt (Hp.ne_of ez he) ez);rw[List.mem_append]at hx;rcases hx with hx | hx
 .exact ok x hx
 .simp only [List.mem_cons,List.not_mem_nil,or_false]at hx;rcases hx with rfl | rfl
  .exact ⟨ha,hb,hc,hd⟩
  .exact ⟨i1,i2,i3,i4⟩
theorem Zpi {la lb:Nat}{nA wA:Addr}{ms:List Int}{ws:List Win} (G:Gnd (KW W0) B) (hh:A.handled=none) (hm1 : 1<=ms.length) (hm2:ms.length<=68) (h1:la<=69) (h2:lb<=69) (ga:m (S "la")=some (.int (la:Int))) (gb:m (S "lb")=some (.int (lb:Int))) (gw:m (S "windows")=some (.ref wA))
  (hw:hp wA=some (.list (ws.map wAV))) (hwL:wA≠L) (wl:ws.length=6) (ok:∀ x ∈ ws,WOk x) (c3:hp (L + 3)=some (.cell (some (.ref nA)))) (hn:hp nA=some (.list (ms.map .int))) (hnL:nA≠L) (hnw:nA≠wA) (c4:hp (L + 4)=some (.cell none))
  (hK:∀ m' hp' (ws':List Win),m' (S "windows")=some (.ref wA)->(∀ y,y ∉ ["w", "x", "y", "z", "windows"]->m' (S y)=m (S y))->hp' wA=some (.list (ws'.map wAV))->ws'.length<=150->(∀ x ∈ ws',WOk x)->(∀ z o,z≠wA->z≠L + 4->hp z=some o->hp' z=some o)->EXs (model PW W0) A (λ_ _=>False) B (lEnv L) rest m' hp' KK) :
  EXs (model PW W0) A (λ_ _=>False) B (lEnv L) (lawS 11 :: rest) m hp KK:=by
 refine Zac (Zd3 hh (Zb9 (Zat G (Zb5 W0) Zbr (by decide) (λ_=>Zc7) ⟨rfl,Zab (Zao (Zat G (Zbc W0) Zaz (by decide) (λ_=>Zbi) ⟨rfl,Zab (Zb8 (c:=L + 3) rfl c3 (cj3 L) (Zae (Zbe (.inl ⟨hn,hnL⟩) (by rw[List.length_map];exact sz' (by (exact Nat.le_trans ‹_› (by decide)))) (Zae (Zd4 λr ob hr hrL ro=>?_)))))⟩))⟩)));have le1:=(Hp.Le.refl hp).set hr (.obj ob);have hw1:=le1 _ _ hw;have c41:=le1 _ _ c4;rw[List.length_map]at ro;refine ⟨r,ob,0,ms.length,rfl,Hp.ss ..,hrL,ro,by decide,by decide,by (exact Int.natCast_nonneg _),by lia,λit hit hitL=>?_⟩;have hit':hp it=none:=le1.none hit;have itw:wA≠it:=Hp.ne_of hw1 hit;have it4:L + 4≠it:=Hp.ne_of c41 hit;have w4:wA≠L + 4:=λe=>by rw[e,c4]at hw;cases hw
 have n4:nA≠L + 4:=λe=>by rw[e,c4]at hn;cases hn
 have w3:L + 3≠wA:=λe=>by rw[e,hw]at c3;cases c3
 have f3:L + 3≠L + 4:=λe=>by rw[e,c4]at c3;cases c3
 refine ⟨λn m₂ hp₂=>∃ ws':List Win,m₂ (S "windows")=some (.ref wA)/\(∀ y,y ∉ ["w", "x", "y", "z", "windows"]->m₂ (S y)=m (S y))/\hp₂ wA=some (.list (ws'.map wAV))/\ws'.length=6 + 2 * n/\(∀ x ∈ ws',WOk x)/\(∃ v,hp₂ (L + 4)=some (.cell v))/\(∀ z o,z≠wA->z≠L + 4->hp z=some o->hp₂ z=some o),λob'=>?_,λn m₂ hp₂ ob' x=>?_,λn m₂ hp₂ ob' hn' x hob=>?_,λm₂ hp₂ x=>?_⟩
 .exact ⟨ws,gw,λ_ _=>rfl,Hp.snt itw hw1,wl,ok,⟨none,Hp.snt it4 c41⟩,λz o _ _ e=>Hp.snt (Hp.ne_of e hit') (le1 _ _ e)⟩
 .obtain ⟨ws',x1,x2,x3,x4,x5,⟨v,x6⟩,x7⟩:=x;exact ⟨ws',x1,x2,Hp.snt itw x3,x4,x5,⟨v,Hp.snt it4 x6⟩,λz o a1 a2 e=>Hp.snt (Hp.ne_of e hit') (x7 z o a1 a2 e)⟩
 .obtain ⟨ws',x1,x2,x3,x4,x5,⟨v,x6⟩,x7⟩:=x;have hn68:n < ms.length:=by assumption
  rw[Int.zero_add];refine Zhx (c:=L + 4) rfl x6 (cj4 L) ?_;have e1:kids (lawS 11)=[lB 0,lB 1,lB 2]:=rfl;show EXs _ _ _ _ _ (kids (lawS 11)) _ _ _;rw[e1];refine Zqj (nA:=nA) (ms:=ms) (i:=n) G hh hm1 hm2 (by (exact Nat.lt_of_lt_of_le ‹_› ‹_›)) (Hp.snt f3 (x7 _ _ w3 f3 c3)) (Hp.snt n4 (x7 _ _ hnw n4 hn)) (Hp.ss ..) (λhp3 l3=>?_) hnL;refine Zoz (la:=la) (lb:=lb) (wA:=wA) (ws:=ws') G hh h1 h2 ?_ ?_ (by first | assumption | rfl) (by first | assumption | rfl) (by first | assumption | rfl) (by first | assumption | rfl) (by first | assumption | rfl) (l3 _ _ (Hp.snt w4 x3)) hwL (by (exact F30 0xc85857940922640860445750 0x12012 rfl hm2 x4 hn68)) x5 λm4 hp4 ws4 y1 y2 y3 y4 y5 y6=>Zal ?_
  .exact updO (ns:=["w", "x", "y", "z", "windows"]) (by decide) (updO (ns:=["w", "x", "y", "z", "windows"]) (by decide) (updO (ns:=["w", "x", "y", "z", "windows"]) (by decide) (updO (ns:=["w", "x", "y", "z", "windows"]) (by decide) ((x2 "la" (by decide)).trans ga))))
  .exact updO (ns:=["w", "x", "y", "z", "windows"]) (by decide) (updO (ns:=["w", "x", "y", "z", "windows"]) (by decide) (updO (ns:=["w", "x", "y", "z", "windows"]) (by decide) (updO (ns:=["w", "x", "y", "z", "windows"]) (by decide) ((x2 "lb" (by decide)).trans gb))))
  .refine ⟨⟨ws4,y1,λy hy=>?_,y3,by (exact F30 0x68022640962470960822640760 0x1010111010 rfl x4 y4),y5,⟨_,y6 _ _ (Ne.symm w4) (l3 _ _ (Hp.ss ..))⟩,λz o a1 a2 e=>y6 _ _ a1 (l3 _ _ (Hp.snt a2 (x7 z o a1 a2 e)))⟩,y6 _ _ (Ne.symm itw) (l3 _ _ (Hp.snt (Ne.symm it4) hob))⟩;rw[y2 y hy];exact updO hy (updO hy (updO hy (updO hy (x2 y hy))))
 .obtain ⟨ws',x1,x2,x3,x4,x5,_,x7⟩:=x;refine hK _ _ ws' x1 x2 (by rw[Hp.del_ne _ itw];exact x3) (by (exact F20 0x96595722640960445850047313a 0x101002101220 rfl hm2 x4)) x5 λz o a1 a2 e=>?_;rw[Hp.del_ne _ (Hp.ne_of e hit')];exact x7 z o a1 a2 e
end
structure Ans (av:List AV) (bs js:List Int) (alo ahi blo bhi:Int) (v:AV):Prop where
 plain:(∃ s,v = .str s)\/∃ a b c,v = .tup [.int a,.int b,.int c]
 t1:∀ b,Ints av alo ahi->flmX (av.map toI) bs (jkB bs js) alo ahi blo bhi=some b->.tup [.int b.1,.int b.2.1,.int b.2.2]=v
 t2:X9 av bs (jkB bs js) alo ahi blo bhi "IndexError" -> .str (S "IndexError")=v
 t3:X9 av bs (jkB bs js) alo ahi blo bhi "TypeError" -> .str (S "TypeError")=v
 d1:Ints av alo ahi->dueV (av.map toI) bs js.contains alo ahi blo bhi=v
 d2:(∃ i,alo<=i/\i < ahi/\(av.length:Int)<=i/\Ints av alo i)->.str (S "IndexError")=v
 d3:(∃ i l,alo<=i/\i < ahi/\av[i.toNat]?=some (.ref l)/\Ints av alo i)->.str (S "TypeError")=v
theorem Zfw {av:List AV}{lo hi i:Int} (I:Ints av lo hi) (h1:lo<=i) (h2:i < hi) (h0 : 0<=lo):¬ (av.length:Int)<=i:=λh=>by
 obtain ⟨x,e⟩:=I i h1 h2;have:=(List.getElem?_eq_some_iff.mp e).1
 (exact F11 0x387407838073a 0x11101101 rfl h this)
theorem Zdh {av:List AV}{lo hi i:Int}{l:Addr} (I:Ints av lo hi) (h1:lo<=i) (h2:i < hi):¬ av[i.toNat]?=some (.ref l):=λh=>by obtain ⟨x,e⟩:=I i h1 h2;rw[h]at e;cases e
theorem Zgn {av:List AV}{lo i j:Int}{l:Addr} (h0 : 0<=lo) (hi:(av.length:Int)<=i) (I:Ints av lo i) (hj:lo<=j) (hr:av[j.toNat]?=some (.ref l)):False:=by
 by_cases h:j < i
 .exact Zdh I hj h hr
 .have:=(List.getElem?_eq_some_iff.mp hr).1
  (exact F12 0x38740787207838083a 0x1111011101 rfl hi h this)
theorem Zp5 (av:List AV) (bs js:List Int) {alo ahi blo bhi:Int} (ha : 0<=alo) (hb : 0<=blo):∃ v,Ans av bs js alo ahi blo bhi v:=by
 by_cases hI:Ints av alo ahi
 .have td:=Zk6 (as:=av.map toI) (bs:=bs) (js:=js) (bhi:=bhi) ha hb (λh=>by rw[List.length_map];exact hI.len ha h);have n2:¬ ∃ i,alo<=i/\i < ahi/\(av.length:Int)<=i/\Ints av alo i:=λ⟨i,h1,h2,h3,_⟩=>Zfw hI h1 h2 ha h3;have n3:¬ ∃ i l,alo<=i/\i < ahi/\av[i.toNat]?=some (.ref l)/\Ints av alo i:=λ⟨i,l,h1,h2,h3,_⟩=>Zdh hI h1 h2 h3;refine ⟨Zne (flmX (av.map toI) bs (jkB bs js) alo ahi blo bhi),?_,λb _ e=>by rw[e];rfl,λh=>?_,λh=>?_,λ_=>td.symm,λh=>absurd h n2,λh=>absurd h n3⟩
  .cases flmX (av.map toI) bs (jkB bs js) alo ahi blo bhi with
   | none=>exact .inl ⟨_,rfl⟩
   | some b=>exact .inr ⟨_,_,_,rfl⟩
  .rcases h with ⟨_,h | h⟩ | ⟨h,_⟩
   .exact absurd h n2
   .rw [h.2];rfl
   .exact absurd h (by decide)
  .rcases h with ⟨h,_⟩ | ⟨_,h⟩
   .exact absurd h (by decide)
   .exact absurd h n3
 .by_cases h2:∃ i,alo<=i/\i < ahi/\(av.length:Int)<=i/\Ints av alo i
  .obtain ⟨i,a1,a2,a3,a4⟩:=id h2;have n3:¬ ∃ i l,alo<=i/\i < ahi/\av[i.toNat]?=some (.ref l)/\Ints av alo i:=λ⟨j,l,h1,h2,h3,_⟩=>Zgn ha a3 a4 h1 h3;refine ⟨.str (S "IndexError"),.inl ⟨_,rfl⟩,λb h _=>absurd h hI,λ_=>rfl,λh=>?_,λh=>absurd h hI,λ_=>rfl,λh=>absurd h n3⟩;rcases h with ⟨h,_⟩ | ⟨_,h⟩
   .exact absurd h (by decide)
   .exact absurd h n3
  .refine ⟨.str (S "TypeError"),.inl ⟨_,rfl⟩,λb h _=>absurd h hI,λh=>?_,λ_=>rfl,λh=>absurd h hI,λh=>absurd h h2,λ_=>rfl⟩;rcases h with ⟨_,h | h⟩ | ⟨h,_⟩
   .exact absurd h h2
   .exact absurd h.1 hI
   .exact absurd h (by decide)
theorem Zde (a b c:Int):SeqAt.shaped (.tuple [.int a,.int b,.int c])=true:=rfl
theorem Zjy (a b c:Int):PyData.eqv (.tuple [.int a,.int b,.int c]) (.tuple [.int a,.int b,.int c])=true:=by simp[PyData.eqv,PyData.eqvAll]
section
variable {A:Around}{E:ET}{B:Shared}{env:Env}{outer:List Env}{m:Loc}{hp:Hp}{L:Addr}{KK:QX}{rest:List Stmt}
theorem Zkj {v:AV}{Q:QV} (hv:(∃ s,v = .str s)\/∃ a b c,v = .tup [.int a,.int b,.int c]) (hu:A.units + 64 < cLine) (h:Q (.bool false) hp):OP2 (model PW W0) A E B env (compareOp .NotEq) m v v hp Q:=by
 rcases hv with ⟨s,rfl⟩ | ⟨a,b,c,rfl⟩
 .refine Zp6 ?_;rw[bne_self_eq_false];exact h
 .refine Zm9 (.tup (.cons (.int a) (.cons (.int b) (.cons (.int c) .nil)))) (.tup (.cons (.int a) (.cons (.int b) (.cons (.int c) .nil)))) (Zde ..) (Zde ..) hu ?_;rw[Zjy];exact h
structure LT (B:Shared) (hp:Hp) (L x dx oA tA jA:Addr) (av:List AV) (bs js:List Int):Prop where
 M:M9 hp L x dx (.ref oA) (.ref tA) bs (jkB bs js)
 l1:Lst B hp L oA av
 l2:Lst B hp L tA (bs.map .int)
 l3:Lst B hp L jA (js.map .int)
 items:∀ (i:Nat) y,av[i]?=some y->(∃ k,y = .int k)\/∃ l xs,y = .ref l/\Lst B hp L l xs
 cj:hp (L + 5)=some (.cell (some (.ref jA)))
 n1:av.length<=69
 n2:bs.length<=69
theorem Zqm {x dx oA tA jA:Addr}{av:List AV}{bs js:List Int}{ww:Win}{v:AV}{Q:QV} (G:Gnd (KW W0) B) (hh:A.handled=none) (hroom:A.depth + 4 < recursionLimit) (hu:A.units + 110 < cLine) (hfr:A.frames=some (env :: outer)) (F0:∀ v ∈ env :: outer,FrOk (hp.set env.locals (.ns m)) v)
  (T:LT B hp env.locals x dx oA tA jA av bs js) (ok:WOk ww) (O:Ans av bs js ww.1 ww.2.1 ww.2.2.1 ww.2.2.2 v) (h:Q v hp):CL (model PW W0) A E B env (.ref 267) m [.ref x,.int ww.1,.int ww.2.1,.int ww.2.2.1,.int ww.2.2.2] hp Q:=by
 obtain ⟨o1,o2,o3,o4⟩:=ok;have:=T.n2;exact Zom G hh hroom hu hfr F0 T.M T.l1 T.l2 T.items o1.1 (by lia) (by lia) (by lia) o3.1 (by lia) (by (exact Nat.le_trans ‹_› (by decide))) (λb hI e=>by rw[O.t1 b hI e];exact h) (λe=>by rw[O.t2 e];exact h) (λe=>by rw[O.t3 e];exact h)
theorem due9 {x dx oA tA jA:Addr}{av:List AV}{bs js:List Int}{ww:Win}{v:AV}{Q:QV} (G:Gnd (KW W0) B) (hh:A.handled=none) (hroom:A.depth + 4 < recursionLimit) (hu:A.units + 110 < cLine)
  (T:LT B hp env.locals x dx oA tA jA av bs js) (ok:WOk ww) (O:Ans av bs js ww.1 ww.2.1 ww.2.2.1 ww.2.2.2 v) (h:Q v hp):CL (model PW W0) A E B env (.ref 260) m [.ref oA,.ref tA,.int ww.1,.int ww.2.1,.int ww.2.2.1,.int ww.2.2.2,.ref jA] hp Q:=by
 obtain ⟨o1,o2,o3,o4⟩:=ok;have:=T.n1;have:=T.n2;exact Zqg G hh hroom hu T.l1 T.l2 T.l3 T.items o1.1 (by lia) (by lia) (by lia) o3.1 (by lia) (by (exact Nat.le_trans ‹_› (by decide))) (by (exact Nat.le_trans ‹_› (by decide))) (λhI=>by rw[O.d1 hI];exact h) (λe=>by rw[O.d2 e];exact h) (λe=>by rw[O.d3 e];exact h)
theorem Zls {x dx oA tA jA:Addr}{av:List AV}{bs js:List Int}{ww:Win} (G:Gnd (KW W0) B) (hh:A.handled=none) (hroom:A.depth + 4 < recursionLimit) (hu:A.units + 110 < cLine) (hfr:A.frames=some [lEnv L]) (T:LT B hp L x dx oA tA jA av bs js) (ok:WOk ww)
  (g1:m (S "matcher")=some (.ref x)) (g2:m (S "one")=some (.ref oA)) (g3:m (S "other")=some (.ref tA)) (k1:m (S "alo")=some (.int ww.1)) (k2:m (S "ahi")=some (.int ww.2.1)) (k3:m (S "blo")=some (.int ww.2.2.1)) (k4:m (S "bhi")=some (.int ww.2.2.2))
  (hK:KK .next m hp):EXs (model PW W0) A E B (lEnv L) (kids (lawS 12)) m hp KK:=by
 obtain ⟨v,O⟩:=Zp5 av bs js (ahi:=ww.2.1) (bhi:=ww.2.2.2) ok.1.1 ok.2.2.1.1;have F0:∀ v ∈ [lEnv L],FrOk (hp.set (lEnv L).locals (.ns m)) v:=λv hv=>by rw[List.mem_singleton]at hv;subst hv;exact ⟨by rw[show (lEnv L).scope.kind = .function from rfl];decide,rfl,_,Hp.ss ..⟩
 refine Zac (Zcf (Zaf (Zdp G (Zpl W0) rfl (Zdd G (Zpn W0) (λ_=>VR_ref) ⟨rfl,Zab (Zaa g1 (Zab (Zaa k1 (Zab (Zaa k2 (Zab (Zaa k3 (Zab (Zaa k4 (Zae ?_))))))))))⟩))));refine Zqm G hh hroom hu hfr F0 T ok O ?_;refine Zdp G (kDue W0) rfl (Zdd G (Zre W0) (λ_=>VR_ref) ⟨rfl,Zab (Zaa g2 (Zab (Zaa g3 (Zab (Zaa k1 (Zab (Zaa k2 (Zab (Zaa k3 (Zab (Zaa k4 (Zab (Zb8 (c:=L + 5) rfl T.cj (cj5 L) (Zae ?_))))))))))))))⟩);refine due9 G hh hroom hu T ok O ?_;exact Zkj O.plain (by (exact ul ‹_› (by decide))) (Zaj (if_f (Zal (Zal hK))))
end
theorem LT.le {B:Shared}{hp hp':Hp}{L x dx oA tA jA:Addr}{av:List AV}{bs js:List Int} (T:LT B hp L x dx oA tA jA av bs js) (l:Hp.Le hp hp'):LT B hp' L x dx oA tA jA av bs js:=
 ⟨T.M.move λz o e _ hz=>⟨l _ _ e,hz⟩,T.l1.le l,T.l2.le l,T.l3.le l,λi y h=>(T.items i y h).imp (λh=>h) λ⟨l',xs,e,h⟩=>⟨l',xs,e,h.le l⟩,l _ _ T.cj,T.n1,T.n2⟩
noncomputable def Zjh:List String:=["alo", "ahi", "blo", "bhi"]
section
variable {L:Addr}{KK:QX}{rest:List Stmt}
theorem Zoj {eY e₂ e₃:Expr} {pos}{Q:QV}
  (h:EV (model PW W0) A E B env eY m hp λv hpY=>TRU (model PW W0) A E B env m v hpY λc hp₂=>if c then EV (model PW W0) A E B env (.BoolOp .And [e₂,e₃] pos) m hp₂ Q else Q v hp₂):EV (model PW W0) A E B env (.BoolOp .And [eY,e₂,e₃] pos) m hp Q:=λs r=>by
 refine BoolOp_and (h.use r λu sY v hpY rY leY hu q=>?_);refine useT (q sY u rY hu) λc s₂ hp₂ r₂ le₂ q=>?_;cases c with
 | true=>
  rw[if_pos rfl]at q ⊢;exact useV (q s₂ r₂) λv s₃ av hp₃ r₃ le₃ hv q=>mkV r₃ ((leY.trans le₂).trans le₃) hv q
 | false=>
  rw[if_neg Bool.false_ne_true]at q ⊢;exact mkV r₂ (leY.trans le₂) (hu.mono le₂) q
theorem Zph {x dx oA tA jA wA:Addr}{av:List AV}{bs js:List Int}{ws:List Win} (G:Gnd (KW W0) B) (hh:A.handled=none) (hroom:A.depth + 4 < recursionLimit) (hu:A.units + 110 < cLine) (hfr:A.frames=some [lEnv L]) (T:LT B hp L x dx oA tA jA av bs js)
  (g1:m (S "matcher")=some (.ref x)) (g2:m (S "one")=some (.ref oA)) (g3:m (S "other")=some (.ref tA)) (g4:m (S "windows")=some (.ref wA)) (hw:hp wA=some (.list (ws.map wAV))) (hwL:wA≠L) (wl:ws.length<=150) (ok:∀ x ∈ ws,WOk x)
  (hK:∀ m' hp',Hp.Le hp hp'->(∀ y,y ∉ Zjh->m' (S y)=m (S y))->EXs (model PW W0) A (λ_ _=>False) B (lEnv L) rest m' hp' KK) :
  EXs (model PW W0) A (λ_ _=>False) B (lEnv L) (lawS 12 :: rest) m hp KK:=by
 refine Zac (Zfb hh (Zad (Zaa g4 (Zku (Zaa g4 (Zge (Zah ⟨1,rfl,⟨wA,_,rfl,rfl,.inl ⟨hw,hwL⟩,by rw[List.length_map];(exact Nat.le_trans ‹_› (by decide)),λb hb hbL=>?_⟩⟩)))))));have l1:=(Hp.Le.refl hp).set hb (.list (ws.map wAV).reverse);refine Zdb (xs:=ws.map wAV) (ys:=(ws.map wAV).reverse) (.inl ⟨l1 _ _ hw,hwL⟩) (.inl ⟨Hp.ss ..,hbL⟩) (by rw[List.length_reverse,List.length_map];lia) λc hc hcL=>?_;refine ⟨c,ws.map wAV ++ (ws.map wAV).reverse,rfl,.inl ⟨Hp.ss ..,hcL⟩,λit hit hitL=>?_⟩;have l2:=l1.set (l1.none hc) (.list (ws.map wAV ++ (ws.map wAV).reverse));have c2:((hp.set b (.list (ws.map wAV).reverse)).set c (.list (ws.map wAV ++ (ws.map wAV).reverse))) c=some (.list (ws.map wAV ++ (ws.map wAV).reverse)):=Hp.ss ..;generalize (hp.set b (.list (ws.map wAV).reverse)).set c (.list (ws.map wAV ++ (ws.map wAV).reverse))=hp1 at l2 c2 hit ⊢;refine ⟨λn m₂ hp₂=>(∀ y,y ∉ Zjh->m₂ (S y)=m (S y))/\Hp.Le hp1 hp₂,λob'=>⟨λ_ _=>rfl,(Hp.Le.refl hp1).set hit _⟩,λn m₂ hp₂ ob' y=>⟨y.1,y.2.set hit _⟩,λn m₂ hp₂ y=>.inl ⟨y.2 _ _ c2,hcL⟩,λn v m₂ hp₂ ob' hv y hob=>?_,λm₂ hp₂ y=>?_⟩
 .obtain ⟨ww,rfl,hok⟩:∃ ww,wAV ww=v/\WOk ww:=by have:=List.mem_of_getElem? hv;rw[List.mem_append,List.mem_reverse,or_self]at this;obtain ⟨ww,h1,h2⟩:=List.mem_map.mp this;exact ⟨ww,h2,ok _ h1⟩
  refine Zci (xs:=[.int ww.1,.int ww.2.1,.int ww.2.2.1,.int ww.2.2.2]) hh rfl rfl rfl (Zam (Zak (Zam (Zak (Zam (Zak (Zam (Zak (Zav ?_)))))))));generalize hm3:upd (upd (upd (upd m₂ _ _) _ _) _ _) _ _=m3;have p0:∀ y,y ∉ Zjh->m3 (S y)=m (S y):=λz hz=>by subst hm3;exact updO hz (updO hz (updO hz (updO hz (y.1 z hz))))
  refine Zls G hh hroom hu hfr (T.le (l2.trans y.2)) hok ((p0 _ (by decide)).trans g1) ((p0 _ (by decide)).trans g2) ((p0 _ (by decide)).trans g3) (by subst hm3;(first | assumption | rfl)) (by subst hm3;(first | assumption | rfl)) (by subst hm3;(first | assumption | rfl)) (by subst hm3;(first | assumption | rfl)) ?_;exact ⟨⟨p0,y.2⟩,hob⟩
 .exact hK _ _ (λz o e=>by rw[Hp.del_ne _ (Hp.ne_of (l2 _ _ e) hit)];exact y.2 _ _ (l2 _ _ e)) y.1
theorem Zpg {x dx:Addr}{a b:AV}{bs:List Int}{fj:Int->Bool} (G:Gnd (KW W0) B) (M:M9 hp L x dx a b bs fj) (g1:m (S "matcher")=some (.ref x)) (hK:KK (.ret (.bool true)) m hp) :
  EXs (model PW W0) A E B (lEnv L) (lawS 13 :: rest) m hp KK:=by
 obtain ⟨ma,d,j,nj,I,F,R,hj,hjL⟩:=M.ex;have H:∀ {name:PySem.Str} {p1 p2 p3 p4:Pos} {k}{Q:QV},name ∈ attrNames->ma name=some .none->Q (.bool true) hp->EV (model PW W0) A E B (lEnv L) (.Compare (.Attribute (.Name (S "matcher") p1) name p2) [.Is] [.Constant .none k p3] p4) m hp Q:=λh2 h1 q=>
  Zcs (Zks G (clsS W0) (Zmu W0 h2) (Zaa g1 ⟨x,dx,ma,.none,rfl,I,h1,(λ_ e=>by cases e),Zch (Zce q)⟩))
 exact Zac (Zau (Zoj (H (by decide) F.mb (Zaj (if_t (Zok (H (by decide) F.op (Zaj (if_t (H (by decide) F.fb hK))))))))))
end
theorem aNe (L:Addr) {i j:Nat} (h:i≠j):L + i≠L + j:=λe=>h (Nat.add_left_cancel e)
theorem M9.moveC {hp hp':Hp}{L x dx:Addr}{a b:AV}{bs:List Int}{fj:Int->Bool} (M:M9 hp L x dx a b bs fj) (h:∀ z o,hp z=some o->(∀ v,o≠.cell v)->hp' z=some o):M9 hp' L x dx a b bs fj:=by obtain ⟨ma,d,j,nj,I,F,R,hj,hjL⟩:=M.ex;obtain ⟨kvs,h1,h2,h3,h4⟩:=R.ex;refine ⟨ma,d,j,nj,⟨h _ _ I.ob (by simp),h _ _ I.at_ (by simp),I.xL,I.dL⟩,F,⟨kvs,h _ _ h1 (by simp),h2,h3,λk v hk=>?_⟩,h _ _ hj (by simp),hjL⟩;obtain ⟨a,e,ha,haL⟩:=h4 k v hk;exact ⟨a,e,h _ _ ha (by simp),haL⟩
theorem Lst.moveC {B:Shared}{hp hp':Hp}{L a:Addr}{xs:List AV} (l:Lst B hp L a xs) (h:∀ z o,hp z=some o->(∀ v,o≠.cell v)->hp' z=some o):Lst B hp' L a xs:=by
 rcases l with ⟨e,hz⟩ | l
 .exact .inl ⟨h _ _ e (by simp),hz⟩
 .exact .inr l
theorem LT.move {B:Shared}{hp hp':Hp}{L x dx oA tA jA:Addr}{av:List AV}{bs js:List Int} {v3 v4:Option AV} (T:LT B hp L x dx oA tA jA av bs js) (c3:hp (L + 3)=some (.cell v3)) (c4:hp (L + 4)=some (.cell v4)) (h:∀ z o,z≠L + 3->z≠L + 4->hp z=some o->hp' z=some o):LT B hp' L x dx oA tA jA av bs js:=by have hh:∀ z o,hp z=some o->(∀ v,o≠.cell v)->hp' z=some o:=λz o e hn=>h z o (λe'=>by rw[e',c3]at e;cases e;exact hn _ rfl) (λe'=>by rw[e',c4]at e;cases e;exact hn _ rfl) e;exact ⟨T.M.moveC hh,T.l1.moveC hh,T.l2.moveC hh,T.l3.moveC hh,λi y g=>(T.items i y g).imp (λg=>g) λ⟨l',xs,e,g⟩=>⟨l',xs,e,g.moveC hh⟩,h _ _ (aNe L (by decide)) (aNe L (by decide)) T.cj,T.n1,T.n2⟩
section
variable {A:Around}{B:Shared}{m:Loc}{hp:Hp}{L:Addr}{KK:QX}
theorem Zqy {x dx oA tA jA sA:Addr}{av:List AV}{bs js ns:List Int} (G:Gnd (KW W0) B) (hh:A.handled=none) (hroom:A.depth + 4 < recursionLimit) (hu:A.units + 110 < cLine) (hfr:A.frames=some [lEnv L]) (hlen:ns.length<=63) (T:LT B hp L x dx oA tA jA av bs js)
  (g0:m (S "script")=some (.ref sA)) (g1:m (S "matcher")=some (.ref x)) (g2:m (S "one")=some (.ref oA)) (g3:m (S "other")=some (.ref tA)) (hs:hp sA=some (.list (ns.map .int))) (hsL:sA≠L) (ho:hp oA=some (.list av)) (hoL:oA≠L) (ht:hp tA=some (.list (bs.map .int))) (htL:tA≠L)
  (c3:hp (L + 3)=some (.cell none)) (c4:hp (L + 4)=some (.cell none)) {ps:Array Value} (hP:hp 269=some (.obj (tabObj ps))) (hK:∀ m' hp',hp' 269=some (.obj (tabObj ps))->KK (.ret (.bool true)) m' hp') :
  EXs (model PW W0) A (λ_ _=>False) B (lEnv L) [lawS 8,lawS 9,lawS 10,lawS 11,lawS 12,lawS 13] m hp KK:=by
 have n1:=T.n1;have n2:=T.n2;have d34:L + 4≠L + 3:=aNe L (by decide);refine Zq0 (sA:=sA) (ns:=ns) G hlen g0 hs hsL c3 λnA hp1 ms q1 q2 q3 q4 q5 k1=>?_;have o3:oA≠L + 3:=λe=>by rw[e,c3]at ho;cases ho
 have t3:tA≠L + 3:=λe=>by rw[e,c3]at ht;cases ht
 refine Zqz (av:=av) (bv:=bs.map .int) G hh g2 g3 (k1 _ _ o3 ho) hoL (k1 _ _ t3 ht) htL n1 (by rw[List.length_map];exact n2) ?_;rw[List.length_map];refine Zpj (la:=av.length) (lb:=bs.length) n1 n2 (by first | assumption | rfl) (by first | assumption | rfl) λwA hp2 ws p1 p2 p3 p4 p5 l2=>?_;have c41:=k1 _ _ d34 c4;refine Zpi (la:=av.length) (lb:=bs.length) (nA:=nA) (wA:=wA) (ms:=ms) (ws:=ws) G hh q3 q4 n1 n2 (by first | assumption | rfl) (by first | assumption | rfl) (by first | assumption | rfl) p3 p2 p4 p5 (l2 _ _ q5) (l2 _ _ q1) q2 (Hp.ne_of q1 p1) (l2 _ _ c41) λm3 hp3 ws3 r1 r2 r3 r4 r5 k3=>?_;have kk:∀ z o,z≠L + 3->z≠L + 4->hp z=some o->hp3 z=some o:=λz o h3 h4 e=>k3 _ _ (Hp.ne_of (k1 _ _ h3 e) p1) h4 (l2 _ _ (k1 _ _ h3 e));have T3:=T.move c3 c4 kk;have a1:m3 (S "matcher")=some (.ref x):=(r2 "matcher" (by decide)).trans (by first | assumption | rfl);have a2:m3 (S "one")=some (.ref oA):=(r2 "one" (by decide)).trans (by first | assumption | rfl);have a3:m3 (S "other")=some (.ref tA):=(r2 "other" (by decide)).trans (by first | assumption | rfl);refine Zph (x:=x) (dx:=dx) (wA:=wA) (ws:=ws3) G hh hroom hu hfr T3 a1 a2 a3 r1 r3 p2 r4 r5 λm4 hp4 l4 s1=>?_;exact Zpg G (T3.le l4).M ((s1 "matcher" (by decide)).trans a1) (hK _ _ (l4 _ _ (kk _ _ (λe=>by rw[e,c3]at hP;cases hP) (λe=>by rw[e,c4]at hP;cases hP) hP)))
theorem Zlt {l:Addr}{ns:List Int} (G:Gnd (KW W0) B) (hh:A.handled=none) (hroom:A.depth + 6 < recursionLimit) (hu:A.units + 110 < cLine) (hfr:A.frames=some [lEnv L]) (hX:CodeHd B.heap 271 269) (hb:∃ mg,B.heap.Ns mainGlobals mg/\B.heap.BuiltinsAt mg 269)
  (hP:hp 269=some (.obj (tabObj #[]))) (hPL : 269≠L) (hlen:ns.length<=63) (hl:Lst B hp L l (ns.map .int)) (g0:m (S "script")=some (.ref l))
  (c1:hp (L + 1)=some (.cell none)) (c2:hp (L + 2)=some (.cell none)) (c3:hp (L + 3)=some (.cell none)) (c4:hp (L + 4)=some (.cell none)) (c5:hp (L + 5)=some (.cell none)) (hK:∀ m' hp' ps,hp' 269=some (.obj (tabObj ps))->KK (.ret (.bool true)) m' hp') :
  EXs (model PW W0) A (λ_ _=>False) B (lEnv L) (Zbg (topS PW 10)) m hp KK:=by
 have eb:Zbg (topS PW 10)=lawS 0 :: lawS 1 :: lawS 2 :: lawS 3 :: lawS 4 :: lawS 5 :: lawS 6 :: lawS 7 :: [lawS 8,lawS 9,lawS 10,lawS 11,lawS 12,lawS 13]:=rfl;rw[eb];have x1:∀ {z:Addr}{o:AO},hp z=some o->(∀ v,o≠.cell v)->z≠L + 1:=λe hn e'=>by rw[e',c1]at e;cases e;exact hn _ rfl
 refine Zpk hh hlen hl g0 c1 λm1 hp1 sA a1 a2 a3 a4 a5 k1=>?_;have d2:=k1 _ _ (show L + 2≠L + 1 from aNe L (by decide)) c2;have d3:=k1 _ _ (show L + 3≠L + 1 from aNe L (by decide)) c3;have d4:=k1 _ _ (show L + 4≠L + 1 from aNe L (by decide)) c4;have d5:=k1 _ _ (show L + 5≠L + 1 from aNe L (by decide)) c5;have dP:=k1 _ _ (x1 hP (by simp)) hP;clear c1 c2 c3 c4 c5 hP x1 k1 g0 hl;refine Zq6 (sA:=sA) (ns:=ns) G hh hlen a1 a3 a4 λiA hp2 i0 i1 i2 l2=>?_;refine Zq5 (ns:=ns) (iA:=iA) G hlen (by first | assumption | rfl) (by first | assumption | rfl) i2 i1 ?_;have s2:=l2 _ _ a3;refine Zq4 (sA:=sA) (ns:=ns) G hlen (by first | assumption | rfl) s2 a4 (l2 _ _ a5) (l2 _ _ d2) ?_;have s2':sA≠L + 2:=λe=>by rw[e,l2 _ _ d2]at s2;cases s2
 have i2':iA≠L + 2:=λe=>by rw[e,l2 _ _ d2]at i2;cases i2
 have P2 : 269≠L + 2:=λe=>by rw[e,d2]at dP;cases dP
 have hc0 : 0<=cutF ns:=by unfold cutF;exact Int.emod_nonneg _ (by (exact F10 0x4673092 0x1 rfl))
 obtain ⟨k,hk⟩:=Int.eq_ofNat_of_zero_le hc0;have e1:=Hp.snt (o:=.cell (some (.int (Zds ns)))) (show L + 1≠L + 2 from aNe L (by decide)) (l2 _ _ a5);have e3:=Hp.snt (o:=.cell (some (.int (Zds ns)))) (show L + 3≠L + 2 from aNe L (by decide)) (l2 _ _ d3);have e4:=Hp.snt (o:=.cell (some (.int (Zds ns)))) (show L + 4≠L + 2 from aNe L (by decide)) (l2 _ _ d4);have e5:=Hp.snt (o:=.cell (some (.int (Zds ns)))) (show L + 5≠L + 2 from aNe L (by decide)) (l2 _ _ d5);have eP:=Hp.snt (o:=.cell (some (.int (Zds ns)))) P2 (l2 _ _ dP);have es:=Hp.snt (o:=.cell (some (.int (Zds ns)))) s2' s2;have ei:=Hp.snt (o:=.cell (some (.int (Zds ns)))) i2' i2;have e2:(hp2.set (L + 2) (.cell (some (.int (Zds ns))))) (L + 2)=_:=Hp.ss ..;generalize hp2.set (L + 2) (.cell (some (.int (Zds ns))))=hp3 at e1 e2 e3 e4 e5 eP es ei ⊢;have il:=Zjl ns;refine Zq3 (iA:=iA) (is:=itF ns) (k:=k) (st:=Zds ns) hh (by (exact F20 0x4459574709603f58502471a 0x101001101110 rfl hlen il)) (by first | assumption | rfl) (by rw[hk];(first | assumption | rfl)) ei i1 e2 λoA tA av bs hp4 o1 o2 o3 o4 o5 o6 o7 l4=>?_;refine Zq2 (hd:=hdF ns) G hh (l4 _ _ e1) (l4 _ _ e5) λjA hp5 j1 j2 j3 k5=>?_;have x5:∀ {z:Addr}{o:AO},hp4 z=some o->(∀ v,o≠.cell v)->z≠L + 5:=λe hn e'=>by rw[e',l4 _ _ e5]at e;cases e;exact hn _ rfl
 have oo:=k5 _ _ (x5 o1 (by simp)) o1;have ot:=k5 _ _ (x5 o3 (by simp)) o3;have fP:=k5 _ _ (x5 (l4 _ _ eP) (by simp)) (l4 _ _ eP);have fs:=k5 _ _ (x5 (l4 _ _ es) (by simp)) (l4 _ _ es);have f3:=k5 _ _ (show L + 3≠L + 5 from aNe L (by decide)) (l4 _ _ e3);have f4:=k5 _ _ (show L + 4≠L + 5 from aNe L (by decide)) (l4 _ _ e4);have jl:=Zns (hdF ns);refine Zq1 (jA:=jA) (oA:=oA) (tA:=tA) (av:=av) (bs:=bs) (js:=jkF (hdF ns)) G hh hroom (by (exact ul ‹_› (by decide))) hX hb fP hPL (by first | assumption | rfl) (by first | assumption | rfl) j1 j2 j3 ot o4 jl (by (exact Nat.lt_of_le_of_lt ‹_› (by decide))) λx dx hp6 _ _ M ⟨ps,gP⟩ k6=>?_;have up:∀ {z:Addr}{o:AO},hp5 z=some o->z≠L->(∀ y,o≠.obj y)->hp6 z=some o:=λe hz hn=>k6 _ _ hz (λe'=>by rw[e',fP]at e;cases e;exact hn _ rfl) e;have T:LT B hp6 L x dx oA tA jA av bs (jkF (hdF ns)):=⟨M,.inl ⟨up oo o2 (by simp),o2⟩,.inl ⟨up ot o4 (by simp),o4⟩,.inl ⟨up j1 j2 (by simp),j2⟩,λi y hy=>?_,up j3 (cj5 L) (by simp),o5,o6⟩
 .refine Zqy (sA:=sA) (ns:=ns) G hh (by (exact ul ‹_› (by decide))) hu hfr hlen T (by first | assumption | rfl) (by first | assumption | rfl) (by first | assumption | rfl) (by first | assumption | rfl) (up fs a4 (by simp)) a4 (up oo o2 (by simp)) o2 (up ot o4 (by simp)) o4 (up f3 (cj3 L) (by simp)) (up f4 (cj4 L) (by simp)) gP λm' hp' e=>hK m' hp' ps e
 .rcases o7 y (List.mem_of_getElem? hy) with h | ⟨l',xs,e,h1,h2,h3⟩
  .exact .inl h
  .exact .inr ⟨l',xs,e,.inl ⟨up (k5 _ _ (x5 h1 (by simp)) h1) h2 (by simp),h2⟩⟩
end
noncomputable def hid (s:Shared) (P:Addr):Shared:={ s with heap:=s.heap.update P λ_=>⟨.none,none,.freed,#[]⟩ }
theorem Zbp {s:Shared}{P b:Addr} (h:b≠P):(hid s P).heap.get? b=s.heap.get? b:=(Heap.SameBut.update s.heap P _).2 b h
theorem Zhh (s:Shared) (P:Addr):(hid s P).heap.get? P=none:=by obtain ⟨⟨objs,l⟩,g,d,t,os⟩:=s;show Heap.get? ⟨objs.modify P _,l⟩ P=none;unfold Heap.get?;simp only[Array.getElem?_modify,if_true];cases objs[P]? <;> rfl
theorem Zhi {s:Shared}{P b:Addr}{o:Obj} (e:(hid s P).heap.get? b=some o):s.heap.get? b=some o/\b≠P:=by
 have hb:b≠P:=λh=>by rw[h,Zhh]at e;cases e
 rw[Zbp hb]at e;exact ⟨e,hb⟩
theorem Gnd.hid {K:Frag}{s:Shared}{P:Addr} (G:Gnd K s) (hK:K.lookup P=none) (h1:mainGlobals≠P) (h2:builtinsNs≠P) (h3:cStatics≠P) (h4:sysModules≠P):Gnd K (hid s P):=by have hs:Heap.SameBut P s.heap (Mine.hid s P).heap:=Heap.SameBut.update ..;obtain ⟨mg,mb,g,b,hb⟩:=G.top;obtain ⟨o,ho⟩:=G.sys;refine ⟨λa o e=>?_,⟨mg,mb,g.sameBut hs h1,b.sameBut hs h2,hb⟩,G.lim.sameBut hs h3,⟨o,by rw[Zbp h4];exact ho⟩⟩;rw[Zbp (λh=>by rw[h,hK]at e;cases e)];exact G.X a o e
section
variable {A:Around}{E:ET}{s:Shared}{K:Frag}
noncomputable def Zfm (P:Addr) (o:AO):Hp:=λz=>if z=P then some o else none
theorem Zhz {f P c:Addr}{fd:FuncData}{body:List Stmt}{vs:List Value}{us:List (PySem.Str × Value)}{bs:List (PySem.Str × AV)} (G:Gnd K s) (hg:s.gens = #[]) (hX:CodeHd s.heap c P) (hP:s.heap.get? P=some (tabObj #[])) (ho:K.lookup f=some ⟨.type "function",none,.func fd,#[]⟩) (hcd:codeIn K fd.code fd.qualname=true)
  (hbody:fd.body = .stmts body) (hroom:A.depth < recursionLimit) (hclo:fd.closure=[])
  (hb:bindArgs fd ⟨vs,[]⟩=pure us) (e1:us.map (·.1)=bs.map (·.1)) (e2:VRs s.heap (bs.map (·.2)) (us.map (·.2)))
  (hkind:∀ L,∀ x ∈ bs,fd.scope.names.lookup x.1=some .local\/(fd.scope.names.lookup x.1=some .cell/\((cellsFrom (L + 1) fd.scope.names []).lookup x.1).isSome=true))
  (h:∀ L,P < L->EXs (model PW W0) (A.deeper (callEnvC fd L f)) (λ_ _=>False) (hid s P) (callEnvC fd L f) body (Zek (callEnvC fd L f).kindOf bs λ_=>none) (Zbb (Zfm P (.obj (tabObj #[]))) (cellsFrom (L + 1) fd.scope.names []) (Zel (callEnvC fd L f).kindOf bs λ_=>none)) (λfl _ hp=>fl = .ret (.bool true)/\∃ ps,hp P=some (.obj (tabObj ps))))
  (hnd:∀ L,∀ n c,(n,c) ∈ cellsFrom (L + 1) fd.scope.names []->(cellsFrom (L + 1) fd.scope.names []).lookup n=some c)
  (hco:autoParam (fd.scope.isCoroutine=false) rB) (hgen:autoParam (fd.scope.isGenerator=false) rB) (hk:autoParam (fd.scope.kind = .function) rB) :
  wpAny (model PW W0) A (call (.ref f) vs) (λv s'=>v = .bool true/\OldK s.heap s'.heap/\s'.os=s.os/\AllBare s'.gens) (λ_ _=>False) s:=by
 refine wpAny_call ?_;have hkd:∀ x ∈ us,fd.scope.names.lookup x.1=some .local\/(fd.scope.names.lookup x.1=some .cell/\((cellsFrom (s.heap.objs.size + 1) fd.scope.names []).lookup x.1).isSome=true):=λx hx=>by
  have:x.1 ∈ bs.map (·.1):=by rw[<-e1];exact List.mem_map_of_mem hx
  obtain ⟨y,hy,e⟩:=List.mem_map.mp this;rw[<-e];exact hkind _ y hy
 refine codeAny_call_cells hroom (G.X _ _ ho) rfl G.lim (codeRec_of G.X hcd) hbody hb hclo hkd (λsY x=>?_) hco hgen hk;refine hide λ_ Z=>?_;obtain ⟨⟨⟨hY,tkY,rfl⟩,xns,xk,xf⟩,xc,xa,xab⟩:=x;apply Z;clear Z;have le:ImmLe s.heap hY:=ImmLe.keep xk;have hPL:P < s.heap.objs.size:=Heap.lt_size hP;have nob:∀ {a:Addr},s.heap.objs.size<=a->(hid s P).heap.get? a=none:=λ{a} ha=>by
  cases e:(hid s P).heap.get? a with
  | none=>rfl
  | some o=>exact absurd (Heap.lt_size (Zhi e).1) (Nat.not_lt.mpr ha)
 generalize hLL:s.heap.objs.size=L at *;change hY.Ns L _ at xns;have rel:Rel (hid s P) ((Zbb (Zfm P (.obj (tabObj #[]))) (cellsFrom (L + 1) fd.scope.names []) (Zel (callEnvC fd L f).kindOf bs λ_=>none)).set (callEnvC fd L f).locals (.ns (Zek (callEnvC fd L f).kindOf bs λ_=>none))) { s with heap:=hY,toks:=tkY }:=by
  refine ⟨λb o e=>xk _ _ (Zhi e).1,λa o e=>?_,rfl,⟨by show AllBare s.gens;rw[hg];exact λy hy=>by simp at hy,.refl _⟩,?_⟩
  .by_cases ha:a=L
   .subst ha;rw[show (callEnvC fd a f).locals=a from rfl,Hp.ss]at e;cases e;exact ⟨nob (Nat.le_refl _),_,xns,Zkd e1 (e2.mono le) ⟨λx v e=>(by cases e),λx _=>rfl⟩⟩
   .rw [show (callEnvC fd L f).locals=L from rfl,Hp.sn _ _ ha]at e;unfold Zbb at e;cases hf:(cellsFrom (L + 1) fd.scope.names []).find? (λx=>decide (x.2=a)) with
    | some x=>
     rw[hf]at e;cases e;have hmem:=List.mem_of_find?_eq_some hf;have hxa:x.2=a:=by have:=List.find?_some hf;simpa using this
     obtain ⟨o',ho',hd'⟩:=xc x.1 a (by have:=hnd L x.1 x.2 hmem;rw[hxa]at this;exact this);have hlt:L < x.2:=xab x.1 x.2 hmem;refine ⟨nob (by rw[<-hxa];exact Nat.le_of_lt hlt),o',_,ho',hd',?_⟩;have hC:=Zke (k:=(callEnvC fd L f).kindOf) (h:=hY) e1 (e2.mono le) (m:=λ_=>none) (mv:=λ_=>none) ⟨λx v e=>(by cases e),λx _=>rfl⟩;cases hcm:Zel (callEnvC fd L f).kindOf bs (λ_=>none) x.1 with
     | none=>exact hC.2 x.1 hcm
     | some v=>obtain ⟨u,hu,hvu⟩:=hC.1 x.1 v hcm;exact ⟨u,hu,hvu⟩
    | none=>
     rw[hf]at e;dsimp only at e;unfold Zfm at e;by_cases hz:a=P
     .rw [if_pos hz]at e;cases e;subst hz;exact ⟨Zhh s a,xk _ _ hP,Za8 λxs n e=>by cases e⟩
     .rw [if_neg hz]at e;cases e
  .trivial
 refine wpAny_mono (h L hPL _ rel) (λfl s' x=>?_) λ_ _ x=>x.elim;refine hide λ_ Z=>?_;obtain ⟨af,m',hp',r',le',hf,e,ps,hp⟩:=x;subst e;obtain ⟨u,rfl,hu⟩:=hf;apply Z;clear Z;simp only[VR]at hu;subst hu;have hPs:s'.heap.get? P=some (tabObj ps):=(r'.objs P _ (Hp.snt (show P≠L from Nat.ne_of_lt hPL) hp)).2.1;refine ⟨rfl,⟨λb o e=>?_,λb o e=>?_⟩,r'.os,r'.bare.1⟩
 .by_cases hz:b=P
  .subst hz;rw[hP]at e;cases e;exact .inr (.inl ⟨(hX.tab hP).isCodeTable,rfl,#[],ps,rfl,by rw[hPs];simp[tabObj]⟩)
  .exact .inl (r'.keep b o (by rw[Zbp hz];exact e))
 .by_cases hz:b=P
  .exact ⟨_,hz ▸ hPs⟩
  .exact ⟨o,r'.keep b o (by rw[Zbp hz];exact e)⟩
end
set_option maxHeartbeats 8000000
theorem holds:PySem.Challenge.rw_dm0058_09.Holds:=by
 refine Zrd λs mean mg mb l vs ns T X hg hl hI hlen=>?_;have hP:s.heap.get? 269=some (tabObj #[]):=X 269 _ rfl;have hn:(KW W0).lookup 269=none:=by kernel_rfl
 have XW:(KW W0).In s.heap:=λa o e=>X a o (by
  show List.lookup a ((269,_) :: KW W0)=some o;rw[List.lookup_cons];by_cases h:a=269
  .rw [h,hn]at e;cases e
  .rw [beq_eq_false_iff_ne.mpr h];exact e)
 have Gs:Gnd (KW W0) s:=⟨XW,⟨mg,mb,T.g,T.b,T.builtins⟩,T.nolimit,⟨_,XW sysModules _ rfl⟩⟩;have hX:CodeHd s.heap 271 269:=codeHd_of_K XW (by kernel_rfl);have G:Gnd (KW W0) (hid s 269):=Gs.hid hn (by decide) (by decide) (by decide) (by decide);have hX':CodeHd (hid s 269).heap 271 269:=codeHd_of_K G.X (by kernel_rfl);have hb:∃ mg,(hid s 269).heap.Ns mainGlobals mg/\(hid s 269).heap.BuiltinsAt mg 269:=by
  obtain ⟨bm,ob,b1,b2,b3,b4,b5,b6⟩:=T.bmain;have hbP:bm≠269:=λq=>by rw[q,hP]at b3;cases b3;cases b4
  have hbG:bm≠mainGlobals:=λq=>by obtain ⟨o,es,ep,e,hd,_⟩:=T.g;rw[q,e]at b3;cases b3;rw[hd]at b6;cases b6
  exact ⟨mg,T.g.sameBut (Heap.SameBut.update ..) (by decide),bm,ob,b1,b2,hbG,hbP,(Zbp hbP).trans b3,b4,b5,b6⟩
 have hcl:∀ L,cellsFrom (L + 1) fdLaw.scope.names []=[(S "junk",L + 5),(S "t",L + 4),(S "numbers",L + 3),(S "strange",L + 2),(S "head",L + 1)]:=λL=>rfl;refine Zhz (P:=269) (c:=271) (us:=[(S "script",.ref l)]) (bs:=[(S "script",.ref l)]) (body:=Zbg (topS PW 10)) Gs hg hX hP (kLaw W0) (by kernel_rfl) rfl (by decide) rfl rfl rfl (VRs.one VR_ref) (λL x hx=>?_) (λL hPL=>?_) (λL n c hm=>?_)
 .simp only [List.mem_cons,List.not_mem_nil,or_false]at hx;subst hx;exact .inl rfl
 .rw [hcl];generalize hhp1:Zbb (Zfm 269 (.obj (tabObj #[]))) _ _=hp1;have c1:hp1 (L + 1)=some (.cell none):=by rw[<-hhp1];simp[Zbb,List.find?];rfl
  have c2:hp1 (L + 2)=some (.cell none):=by rw[<-hhp1];simp[Zbb,List.find?];rfl
  have c3:hp1 (L + 3)=some (.cell none):=by rw[<-hhp1];simp[Zbb,List.find?];rfl
  have c4:hp1 (L + 4)=some (.cell none):=by rw[<-hhp1];simp[Zbb,List.find?];rfl
  have c5:hp1 (L + 5)=some (.cell none):=by rw[<-hhp1];simp[Zbb,List.find?];rfl
  have n269:∀ i:Nat,L + i≠269:=λi=>Nat.ne_of_gt (Nat.lt_of_lt_of_le hPL (Nat.le_add_right L i));have hP1:hp1 269=some (.obj (tabObj #[])):=by rw[<-hhp1];simp[Zbb,List.find?,n269,Zfm]
  have g0:Zek (callEnvC fdLaw L 272).kindOf [(S "script",AV.ref l)] (λ_=>none) (S "script")=some (.ref l):=rfl;have h2:Lst (hid s 269) hp1 L l (ns.map .int):=by
   obtain ⟨o,ho,hc,hd⟩:=hl;have h9:l≠269:=λe=>by rw[e,hP]at ho;cases ho;cases hc
   exact .inr ⟨vs.toArray,⟨o,(Zbp h9).trans ho,hc,hd⟩,Zgw hI⟩
  have key:=@Zlt (callerA.deeper (callEnvC fdLaw L 272)) (hid s 269) _ hp1 L (λfl _ hp=>fl = .ret (.bool true)/\∃ ps,hp 269=some (.obj (tabObj ps))) l ns G rfl (show 301 + 1 + 6 < 1000 from by decide) (show 4 + 3 + 110 < 9900 from by decide) rfl hX' hb hP1 (Nat.ne_of_lt hPL) hlen h2 g0 c1 c2 c3 c4 c5 λm' hp' ps e=>⟨rfl,ps,e⟩;exact key
 .rw [hcl]at hm ⊢;simp only[List.mem_cons,Prod.mk.injEq,List.not_mem_nil,or_false]at hm;rcases hm with ⟨rfl,rfl⟩ | ⟨rfl,rfl⟩ | ⟨rfl,rfl⟩ | ⟨rfl,rfl⟩ | ⟨rfl,rfl⟩ <;> rfl
end Mine
theorem PySem.Challenge.cw_dm0058_09_holds : PySem.Challenge.rw_dm0058_09.Holds :=
  Mine.holds

