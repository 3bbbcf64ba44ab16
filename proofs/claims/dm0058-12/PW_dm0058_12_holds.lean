import PyProof.Rows.All
import Wide.All
import OpenK.AllK
import Wide.FinOn
import PySem.Challenge.RW_dm0058_12
set_option Elab.async false
set_option linter.all false
namespace Mine
theorem hide {T : Prop} (h : ∀ G : Prop, (T → G) → G) : T := h T id
/-! arithmetic, proved once -/
theorem Zbt {n i : Nat} (h : i < n) : n - (i + 1) < n - i := Nat.sub_succ_lt_self n i h
theorem Ziq {i : Int} (h : 0 ≤ i) : ((i.toNat : Nat) : Int) = i := Int.toNat_of_nonneg h
theorem Zcd {i : Int} {n : Nat} (h0 : 0 ≤ i) (h : i < n) : i.toNat < n := by omega
theorem Zjn {x y : Int} (h : y < x) : (x - 1 - y).toNat < (x - y).toNat := by omega
theorem Zpr {x y : Int} (hx : 0 ≤ x) (hy : 0 ≤ y) : x.toNat + y.toNat = (x + y).toNat := by omega
theorem Zbg {α β : Type} {f : α → β} {xs : List α} {k : Nat} (h : xs.length ≤ k) : (xs.map f).length ≤ k := by rw [List.length_map]; exact h
theorem Zau {α : Type} {xs : List α} {n k : Nat} (h : xs.length ≤ k) : (xs.take n).length ≤ k := Nat.le_trans (List.length_take_le' n xs) h
theorem Zav {α : Type} {xs : List α} {n k : Nat} (h : xs.length ≤ k) : (xs.drop n).length ≤ k := by rw [List.length_drop]; exact Nat.le_trans (Nat.sub_le ..) h
theorem Zbf {α : Type} {xs : List α} {k : Nat} (h : xs.length ≤ k) : xs.reverse.length ≤ k := by rw [List.length_reverse]; exact h
theorem Zbh {α : Type} {xs ys : List α} {k l : Nat} (h1 : xs.length ≤ k) (h2 : ys.length ≤ l) : (xs ++ ys).length ≤ k + l := by rw [List.length_append]; exact Nat.add_le_add h1 h2
theorem Zbi {α β : Type} {xs : List α} {ys : List β} {k l : Nat} (h1 : xs.length ≤ k) (h2 : ys.length ≤ l) : xs.length + ys.length ≤ k + l := Nat.add_le_add h1 h2
theorem rk (r k : Int) : r - k + 1 + k - 1 = r := by omega
theorem Zb6 {k : Nat} {n : Nat} {l : Nat} (h : l ≤ k) (h' : k ≤ n) : l ≤ n := Nat.le_trans h h'
theorem ul {a b c d : Nat} (h : a + b < c) (k : d ≤ b) : a + d < c := Nat.lt_of_le_of_lt (Nat.add_le_add_left k a) h
theorem ul0 {a b c : Nat} (h : a + b < c) : a < c := Nat.lt_of_le_of_lt (Nat.le_add_right a b) h
theorem Zkb {a b c d e f g h i : Int} (x : a < d ∨ a = d ∧ (b < e ∨ b = e ∧ c < f)) (y : d < g ∨ d = g ∧ (e < h ∨ e = h ∧ f < i)) : a < g ∨ a = g ∧ (b < h ∨ b = h ∧ c < i) := by
  rcases x with x | ⟨rfl, x | ⟨rfl, x⟩⟩
  · rcases y with y | ⟨rfl, y⟩
    · exact .inl (Int.lt_trans x y)
    · exact .inl x
  · rcases y with y | ⟨rfl, y | ⟨rfl, y⟩⟩
    · exact .inl y
    · exact .inr ⟨rfl, .inl (Int.lt_trans x y)⟩
    · exact .inr ⟨rfl, .inl x⟩
  · rcases y with y | ⟨rfl, y | ⟨rfl, y⟩⟩
    · exact .inl y
    · exact .inr ⟨rfl, .inl y⟩
    · exact .inr ⟨rfl, .inr ⟨rfl, Int.lt_trans x y⟩⟩
open PySem PySem.W PyProof.Rows
set_option maxRecDepth 100000
noncomputable def anyA {α : Type} (as : Array α) (p : α → Bool) (start : Nat := 0) (stop : Nat := as.size) : Bool :=
  @Bool.rec (fun _ => Bool) (Array.any as p start stop) (PySem.W.R.anyR as.toList p) (Nat.beq start 0 && Nat.beq stop as.size)
theorem Zo5 : @Array.any.{0} = @anyA := by
  funext α as p start stop
  unfold anyA
  cases h : (Nat.beq start 0 && Nat.beq stop as.size) with
  | false => rfl
  | true =>
    have h' := Bool.and_eq_true_iff.mp h
    have h1 := Nat.eq_of_beq_eq_true h'.1
    have h2 := Nat.eq_of_beq_eq_true h'.2
    subst h1; subst h2
    show as.any p = PySem.W.R.anyR as.toList p
    rw [← PySem.W.R.anyR_eq, Array.any_toList]
noncomputable abbrev AnyT := {α : Type} → Array α → (α → Bool) → (start : Nat) → (stop : Nat) → Bool
inductive TEq : Builtin → Builtin → Type
  | refl (f : Builtin) : TEq f f
theorem TEq.toEq {a b : Builtin} (x : TEq a b) : a = b := by cases x; rfl
noncomputable def newPk : (G : AnyT → Builtin) × TEq PySem.W.Fast.tw4202317264376624991 (G @Array.any) := ⟨_, by
  delta PySem.W.Fast.tw4202317264376624991
  generalize (@Array.any : AnyT) = X
  exact TEq.refl _⟩
theorem Zmk : PySem.W.Fast.tw4202317264376624991 = newPk.1 @anyA := newPk.2.toEq.trans (congrArg newPk.1 Zo5)
noncomputable def tblA (id : String) : Option Builtin :=
  @Bool.rec (fun _ => Option Builtin) (PySem.W.Fast.tw14364793385576792824 id) (some (newPk.1 @anyA)) (Nat.beq (PySem.W.Fast.tw13482112738370960269 id) (PySem.W.Fast.tw13482112738370960269 "type.__new__"))
theorem Zjo : treeTable = tblA := by
  funext id
  unfold tblA
  rw [← PySem.W.Fast.te14364793385576792824, ← PySem.W.Fast.te13482112738370960269]
  cases h : Nat.beq (PySem.code id) (PySem.code "type.__new__") with
  | false => rfl
  | true =>
    have h1 := PySem.code_inj _ _ (Nat.eq_of_beq_eq_true h)
    subst h1
    show _ = some (newPk.1 @anyA)
    rw [← Zmk, ← PySem.W.Fast.te4202317264376624991]
    kernel_rfl
noncomputable def Zfd (tb : String → Option Builtin) (p : Program) (w : World) (n₀ : Nat) (ann : Option Value) : Nat → SharedT → Thread → Option SharedT
  | 0, _, _ => none
  | n + 1, s, t => match through t with
    | true => some s
    | false => match PySem.W.Fast.tw6613529449190102663 n₀ ann t with
      | false => none
      | true => match PySem.W.Fast.tw10156331382660048174 (PySem.W.Fast.tw11892475500146522536 tb) p w s t with
        | some (s', t') => Zfd tb p w n₀ ann n s' t'
        | none => none
noncomputable def Zqq (P : Params) : BT :=
  .node (boot_o_0 P) (.node (boot_o_1 P) (.node (boot_o_3 P) (.node (boot_o_7 P) .nil .nil) .nil) (.node (boot_o_5 P) (.node (boot_o_9 P) .nil .nil) .nil))
    (.node (boot_o_2 P) (.node (boot_o_4 P) (.node (boot_o_8 P) .nil .nil) .nil) (.node (boot_o_6 P) (.node (boot_o_10 P) .nil .nil) .nil))
theorem Zm3 (P : Params) : absHeap (Zqq P) 11 (boot_heap P).life = boot_heap P := rfl
noncomputable def S0 (w : World) (os : OsState) : SharedT := ⟨Zqq w.params, 11, (boot_heap w.params).life, #[], boot_drawn, boot_toks, os⟩

noncomputable def docX (c : Stmt) : Str := match c with
  | .ClassDef _ _ _ (.Expr (.Constant (.str d) _ _) _ :: _) _ _ _ _ _ _ _ => d
  | _ => default
noncomputable def Zrf (d : Str) (c : Stmt) : Stmt := match c with
  | .ClassDef a1 a2 a3 (.Expr (.Constant (.str _) a4 a5) a6 :: r) b1 b2 b3 b4 b5 b6 b7 => .ClassDef a1 a2 a3 (.Expr (.Constant (.str d) a4 a5) a6 :: r) b1 b2 b3 b4 b5 b6 b7
  | c => c
noncomputable def Zre (p : Program) (d : Str) : Program := { p with main := { p.main with body := p.main.body.set 5 (Zrf d (p.main.body.getD 5 (.Pass default))) } }
noncomputable def docE : (cs : List Char) ×' (docX (PySem.Challenge.pw_dm0058_12.main.body.getD 5 (.Pass default)) = PySem.Str.ofString (String.ofList cs)) := ⟨_, rfl⟩
noncomputable def pT : Program := Zre PySem.Challenge.pw_dm0058_12 ⟨(docE.1.map Char.toNat).toArray⟩
theorem Zmf : PySem.Challenge.pw_dm0058_12 = pT := by
  unfold pT
  rw [← PySem.W.Fast.ofString_ofList, ← docE.2]
  kernel_rfl
noncomputable def theRun (w : World) (os : OsState) : Option SharedT := Zfd tblA pT w 11 (some (.ref 6)) 2300 (S0 w os) (topStub pT)
theorem Ze1 {p : Program} {w : World} {n₀ : Nat} {ann : Option Value} : ∀ {n : Nat} {s s' : SharedT} {t : Thread}, Zfd tblA p w n₀ ann n s t = some s' → topRun treeTable p w n₀ ann n s.abs t = some s'.abs
  | 0, _, _, _, h => by cases h
  | n + 1, s, s', t, h => by
    unfold Zfd at h
    unfold topRun
    cases he : through t with
    | true => rw [he] at h; cases h; rfl
    | false =>
      rw [he] at h
      rw [← PySem.W.Fast.te6613529449190102663] at h
      cases hk : stepOk n₀ ann t with
      | false => rw [hk] at h; cases h
      | true =>
        rw [hk] at h
        rw [← PySem.W.Fast.te10156331382660048174, ← PySem.W.Fast.te11892475500146522536, ← Zjo] at h
        cases hs : stepT (denote treeTable) p w s t with
        | none => rw [hs] at h; cases h
        | some r => obtain ⟨s₂, t₂⟩ := r; rw [hs] at h; dsimp only; rw [stepT_spec hs]; rw [Zjo] at h; exact Ze1 h
noncomputable def qV : Program := view PySem.Challenge.pw_dm0058_12 [0, 2, 3, 4, 5, 7, 8, 9]
noncomputable def Zb8 : List PySem.Str := [PySem.Str.ofString "_tuplegetter", PySem.Str.ofString "Match", PySem.Str.ofString "SequenceMatcher"]


noncomputable abbrev S (x : String) : PySem.Str := PySem.Str.ofString x
noncomputable def topS (p : Program) (i : Nat) : Stmt := p.main.body.getD i (.Pass default)
noncomputable def inS (c : Stmt) (i : Nat) : Stmt := match c with
  | .ClassDef _ _ _ b _ _ _ _ _ _ _ => b.getD i (.Pass default)
  | _ => .Pass default
noncomputable def Zo1 : Stmt → Arguments
  | .FunctionDef _ a _ _ _ _ _ _ _ _ => a
  | _ => default
noncomputable def Zbm : Stmt → List Stmt
  | .FunctionDef _ _ b _ _ _ _ _ _ _ => b
  | .ClassDef _ _ _ b _ _ _ _ _ _ _ => b
  | _ => []
noncomputable def Zqo : Stmt → Scope
  | .FunctionDef _ _ _ _ _ _ sc _ _ _ => sc
  | _ => default
noncomputable def Zr4 : Stmt → PySem.Str
  | .FunctionDef n _ _ _ _ _ _ _ _ _ => n
  | _ => S ""
noncomputable def docS (d : Stmt) : PySem.Str := match PySem.docOf (Zbm d) with | some s => s | none => S ""
noncomputable def docV (t : Nat) (b : List Stmt) : Value := match PySem.docOf b with | some s => .str s t | none => .none
noncomputable def fnD (d : Stmt) (qual : PySem.Str) (dV kV : Value) (dt : Nat) (pm : Value) (an : Option Addr) (cd ct : Value) (cl : List (PySem.Str × Addr)) : FuncData :=
  { name := Zr4 d, qualname := qual, params := Zo1 d, body := .stmts (Zbm d), scope := Zqo d, globals := 3, closure := cl, defaults := dV, kwdefaults := kV, doc := docV dt (Zbm d), pyModule := pm, annotations := an, code := cd, closureTuple := ct, builtins := 0 }
noncomputable def KP (p : Program) (P : Params) : Frag := [
  (2, ⟨.none, none, (.dict #[] 0), #[]⟩),
  (3, ⟨(.type "dict"), none, (.dict #[⟨(PyData.keyHash P (S "__name__")), (.str (S "__name__") 165), (.str (S "law_dm0058_12") 583)⟩, ⟨(PyData.keyHash P (S "__doc__")), (.str (S "__doc__") 166), .none⟩, ⟨(PyData.keyHash P (S "__package__")), (.str (S "__package__") 167), .none⟩, ⟨(PyData.keyHash P (S "__loader__")), (.str (S "__loader__") 168), (.builtin "__main__.__loader__#opaque")⟩, ⟨(PyData.keyHash P (S "__spec__")), (.str (S "__spec__") 169), .none⟩, ⟨(PyData.keyHash P (S "__annotations__")), (.str (S "__annotations__") 170), (.ref 6)⟩, ⟨(PyData.keyHash P (S "__builtins__")), (.str (S "__builtins__") 171), (.ref 4)⟩, ⟨(PyData.keyHash P (S "__file__")), (.str (S "__file__") 173), (.str (S "/claim/cut.py") 172)⟩, ⟨(PyData.keyHash P (S "__cached__")), (.str (S "__cached__") 174), .none⟩, ⟨(PyData.keyHash P (S "_wall")), (.str (S "_wall") 193), (.ref 21)⟩, ⟨(PyData.keyHash P (S "_tuplegetter")), (.str (S "_tuplegetter") 252), (.ref 60)⟩, ⟨(PyData.keyHash P (S "Match")), (.str (S "Match") 380), (.ref 135)⟩, ⟨(PyData.keyHash P (S "_calculate_ratio")), (.str (S "_calculate_ratio") 388), (.ref 145)⟩, ⟨(PyData.keyHash P (S "SequenceMatcher")), (.str (S "SequenceMatcher") 582), (.ref 242)⟩, ⟨(PyData.keyHash P (S "_law_deed")), (.str (S "_law_deed") 590), (.ref 251)⟩, ⟨(PyData.keyHash P (S "_law_read")), (.str (S "_law_read") 596), (.ref 256)⟩, ⟨(PyData.keyHash P (S "law")), (.str (S "law") 602), (.ref 261)⟩] 17), #[]⟩),
  (20, ⟨(.type "code"), none, (.fields #[(.str (S "_wall") 187), (.str (S "_wall") 188), (.str (S "/claim/cut.py") 189), (.int 1 0), (.int 1 0), (.int 0 0), (.int 0 0), (.int 3 0), (.ref 15), (.bool true), (.int 181 0), (.ref 16), .none, (.ref 17), (.ref 18), (.ref 19), (.int 191 0), (.int 1 0), (.str (S "/claim/cut.py") 192)]), #[]⟩),
  (21, ⟨(.type "function"), none, (.func (fnD (topS p 0) (S "_wall") .none .none 0 (.str (S "__main__") 164) none (.ref 20) .none [])), #[]⟩),
  (68, ⟨(.type "cell"), none, (.cell (some (.ref 135))), #[]⟩),
  (75, ⟨(.type "dict"), none, (.dict #[] 0), #[]⟩),
  (81, ⟨(.type "code"), none, (.fields #[(.str (S "__new__") 274), (.str (S "Match.__new__") 275), (.str (S "/claim/cut.py") 276), (.int 29 0), (.int 4 0), (.int 0 0), (.int 0 0), (.int 3 0), (.ref 76), (.bool true), (.int 181 0), (.ref 77), .none, (.ref 78), (.ref 79), (.ref 80), (.int 281 0), (.int 29 0), (.str (S "/claim/cut.py") 282)]), #[]⟩),
  (82, ⟨(.type "function"), none, (.func (fnD (inS (topS p 3) 4) (S "Match.__new__") .none .none 283 (.str (S "cpy313.difflib") 194) none (.ref 81) .none [])), #[]⟩),
  (88, ⟨(.type "code"), none, (.fields #[(.str (S "_make") 285), (.str (S "Match._make") 286), (.str (S "/claim/cut.py") 287), (.int 33 0), (.int 2 0), (.int 0 0), (.int 0 0), (.int 3 0), (.ref 83), (.bool true), (.int 181 0), (.ref 84), .none, (.ref 85), (.ref 86), (.ref 87), (.int 291 0), (.int 33 0), (.str (S "/claim/cut.py") 292)]), #[]⟩),
  (89, ⟨(.type "function"), none, (.func (fnD (inS (topS p 3) 5) (S "Match._make") .none .none 293 (.str (S "cpy313.difflib") 194) (some 92) (.ref 88) .none [])), #[]⟩),
  (90, ⟨(.type "dict"), none, (.dict #[⟨(PyData.keyHash P (S "__module__")), (.str (S "__module__") 295), (.str (S "cpy313.difflib") 194)⟩, ⟨(PyData.keyHash P (S "__name__")), (.str (S "__name__") 298), (.str (S "_make") 297)⟩, ⟨(PyData.keyHash P (S "__qualname__")), (.str (S "__qualname__") 301), (.str (S "Match._make") 300)⟩, ⟨(PyData.keyHash P (S "__doc__")), (.str (S "__doc__") 303), (.str (docS (inS (topS p 3) 5)) 293)⟩, ⟨(PyData.keyHash P (S "__annotations__")), (.str (S "__annotations__") 305), (.ref 92)⟩] 5), #[]⟩),
  (91, ⟨(.type "classmethod"), (some 90), (.fields #[(.ref 89), (.bool false)]), #[]⟩),
  (92, ⟨(.type "dict"), none, (.dict #[] 0), #[]⟩),
  (99, ⟨(.type "code"), none, (.fields #[(.str (S "_replace") 307), (.str (S "Match._replace") 308), (.str (S "/claim/cut.py") 309), (.int 41 0), (.int 1 0), (.int 1 0), (.int 0 0), (.int 11 0), (.ref 94), (.bool true), (.int 181 0), (.ref 95), .none, (.ref 96), (.ref 97), (.ref 98), (.int 314 0), (.int 41 0), (.str (S "/claim/cut.py") 315)]), #[]⟩),
  (100, ⟨(.type "function"), none, (.func (fnD (inS (topS p 3) 6) (S "Match._replace") .none .none 316 (.str (S "cpy313.difflib") 194) none (.ref 99) (.ref 93) [((S "__class__"), 68)])), #[]⟩),
  (106, ⟨(.type "code"), none, (.fields #[(.str (S "__repr__") 319), (.str (S "Match.__repr__") 320), (.str (S "/claim/cut.py") 321), (.int 52 0), (.int 1 0), (.int 0 0), (.int 0 0), (.int 3 0), (.ref 101), (.bool true), (.int 181 0), (.ref 102), .none, (.ref 103), (.ref 104), (.ref 105), (.int 323 0), (.int 52 0), (.str (S "/claim/cut.py") 324)]), #[]⟩),
  (107, ⟨(.type "function"), none, (.func (fnD (inS (topS p 3) 8) (S "Match.__repr__") .none .none 325 (.str (S "cpy313.difflib") 194) none (.ref 106) .none [])), #[]⟩),
  (113, ⟨(.type "code"), none, (.fields #[(.str (S "_asdict") 327), (.str (S "Match._asdict") 328), (.str (S "/claim/cut.py") 329), (.int 56 0), (.int 1 0), (.int 0 0), (.int 0 0), (.int 3 0), (.ref 108), (.bool true), (.int 181 0), (.ref 109), .none, (.ref 110), (.ref 111), (.ref 112), (.int 331 0), (.int 56 0), (.str (S "/claim/cut.py") 332)]), #[]⟩),
  (114, ⟨(.type "function"), none, (.func (fnD (inS (topS p 3) 9) (S "Match._asdict") .none .none 0 (.str (S "cpy313.difflib") 194) none (.ref 113) .none [])), #[]⟩),
  (120, ⟨(.type "code"), none, (.fields #[(.str (S "__getnewargs__") 334), (.str (S "Match.__getnewargs__") 335), (.str (S "/claim/cut.py") 336), (.int 59 0), (.int 1 0), (.int 0 0), (.int 0 0), (.int 3 0), (.ref 115), (.bool true), (.int 181 0), (.ref 116), .none, (.ref 117), (.ref 118), (.ref 119), (.int 338 0), (.int 59 0), (.str (S "/claim/cut.py") 339)]), #[]⟩),
  (121, ⟨(.type "function"), none, (.func (fnD (inS (topS p 3) 10) (S "Match.__getnewargs__") .none .none 340 (.str (S "cpy313.difflib") 194) none (.ref 120) .none [])), #[]⟩),
  (134, ⟨(.type "dict"), none, (.dict #[⟨(PyData.keyHash P (S "__module__")), (.str (S "__module__") 260), (.str (S "cpy313.difflib") 194)⟩, ⟨(PyData.keyHash P (S "__firstlineno__")), (.str (S "__firstlineno__") 264), (.int 23 263)⟩, ⟨(PyData.keyHash P (S "__doc__")), (.str (S "__doc__") 266), (.str (S "Match(a, b, size)") 265)⟩, ⟨(PyData.keyHash P (S "__slots__")), (.str (S "__slots__") 268), (.ref 73)⟩, ⟨(PyData.keyHash P (S "_fields")), (.str (S "_fields") 272), (.ref 74)⟩, ⟨(PyData.keyHash P (S "_field_defaults")), (.str (S "_field_defaults") 273), (.ref 75)⟩, ⟨(PyData.keyHash P (S "__new__")), (.str (S "__new__") 284), (.ref 136)⟩, ⟨(PyData.keyHash P (S "_make")), (.str (S "_make") 306), (.ref 91)⟩, ⟨(PyData.keyHash P (S "_replace")), (.str (S "_replace") 317), (.ref 100)⟩, ⟨(PyData.keyHash P (S "__replace__")), (.str (S "__replace__") 318), (.ref 100)⟩, ⟨(PyData.keyHash P (S "__repr__")), (.str (S "__repr__") 326), (.ref 107)⟩, ⟨(PyData.keyHash P (S "_asdict")), (.str (S "_asdict") 333), (.ref 114)⟩, ⟨(PyData.keyHash P (S "__getnewargs__")), (.str (S "__getnewargs__") 341), (.ref 121)⟩, ⟨(PyData.keyHash P (S "__match_args__")), (.str (S "__match_args__") 345), (.ref 122)⟩, ⟨(PyData.keyHash P (S "a")), (.str (S "a") 355), (.ref 124)⟩, ⟨(PyData.keyHash P (S "b")), (.str (S "b") 365), (.ref 127)⟩, ⟨(PyData.keyHash P (S "size")), (.str (S "size") 375), (.ref 130)⟩, ⟨(PyData.keyHash P (S "__static_attributes__")), (.str (S "__static_attributes__") 376), (.ref 132)⟩] 2), #[]⟩),
  (135, ⟨(.type "type"), none, (.cls { name := (S "Match"), bases := [(.type "tuple")], mro := [(.ref 135), (.type "tuple"), (.type "object")], ns := 134, qualname := (S "Match"), hasDict := false, slotNames := [], subclasses := [], abstract := false, collection := none, hasDel := false }), #[(some (.ref 65)), none, (some (.str (S "Match") 253)), (some (.str (S "Match") 261)), (some .none), (some (.bool false))]⟩),
  (136, ⟨(.type "staticmethod"), none, (.fields #[(.ref 82)]), #[]⟩),
  (144, ⟨(.type "code"), none, (.fields #[(.str (S "_calculate_ratio") 381), (.str (S "_calculate_ratio") 382), (.str (S "/claim/cut.py") 383), (.int 66 0), (.int 2 0), (.int 0 0), (.int 0 0), (.int 3 0), (.ref 139), (.bool true), (.int 181 0), (.ref 140), .none, (.ref 141), (.ref 142), (.ref 143), (.int 386 0), (.int 66 0), (.str (S "/claim/cut.py") 387)]), #[]⟩),
  (145, ⟨(.type "function"), none, (.func (fnD (topS p 4) (S "_calculate_ratio") .none .none 0 (.str (S "cpy313.difflib") 194) none (.ref 144) .none [])), #[]⟩),
  (153, ⟨(.type "tuple"), none, (.seq #[.none, (.str (S "") 404), (.str (S "") 405), (.bool true)] 0), #[]⟩),
  (159, ⟨(.type "code"), none, (.fields #[(.str (S "__init__") 406), (.str (S "SequenceMatcher.__init__") 407), (.str (S "/claim/cut.py") 408), (.int 145 0), (.int 5 0), (.int 0 0), (.int 0 0), (.int 3 0), (.ref 154), (.bool true), (.int 181 0), (.ref 155), .none, (.ref 156), (.ref 157), (.ref 158), (.int 414 0), (.int 145 0), (.str (S "/claim/cut.py") 415)]), #[]⟩),
  (160, ⟨(.type "function"), none, (.func (fnD (inS (topS p 5) 1) (S "SequenceMatcher.__init__") (.ref 153) .none 416 (.str (S "cpy313.difflib") 194) none (.ref 159) .none [])), #[]⟩),
  (166, ⟨(.type "code"), none, (.fields #[(.str (S "set_seqs") 418), (.str (S "SequenceMatcher.set_seqs") 419), (.str (S "/claim/cut.py") 420), (.int 173 0), (.int 3 0), (.int 0 0), (.int 0 0), (.int 3 0), (.ref 161), (.bool true), (.int 181 0), (.ref 162), .none, (.ref 163), (.ref 164), (.ref 165), (.int 424 0), (.int 173 0), (.str (S "/claim/cut.py") 425)]), #[]⟩),
  (167, ⟨(.type "function"), none, (.func (fnD (inS (topS p 5) 2) (S "SequenceMatcher.set_seqs") .none .none 426 (.str (S "cpy313.difflib") 194) none (.ref 166) .none [])), #[]⟩),
  (173, ⟨(.type "code"), none, (.fields #[(.str (S "set_seq1") 428), (.str (S "SequenceMatcher.set_seq1") 429), (.str (S "/claim/cut.py") 430), (.int 184 0), (.int 2 0), (.int 0 0), (.int 0 0), (.int 3 0), (.ref 168), (.bool true), (.int 181 0), (.ref 169), .none, (.ref 170), (.ref 171), (.ref 172), (.int 433 0), (.int 184 0), (.str (S "/claim/cut.py") 434)]), #[]⟩),
  (174, ⟨(.type "function"), none, (.func (fnD (inS (topS p 5) 3) (S "SequenceMatcher.set_seq1") .none .none 435 (.str (S "cpy313.difflib") 194) none (.ref 173) .none [])), #[]⟩),
  (180, ⟨(.type "code"), none, (.fields #[(.str (S "set_seq2") 437), (.str (S "SequenceMatcher.set_seq2") 438), (.str (S "/claim/cut.py") 439), (.int 209 0), (.int 2 0), (.int 0 0), (.int 0 0), (.int 3 0), (.ref 175), (.bool true), (.int 181 0), (.ref 176), .none, (.ref 177), (.ref 178), (.ref 179), (.int 442 0), (.int 209 0), (.str (S "/claim/cut.py") 443)]), #[]⟩),
  (181, ⟨(.type "function"), none, (.func (fnD (inS (topS p 5) 4) (S "SequenceMatcher.set_seq2") .none .none 444 (.str (S "cpy313.difflib") 194) none (.ref 180) .none [])), #[]⟩),
  (187, ⟨(.type "code"), none, (.fields #[(.str (S "__chain_b") 446), (.str (S "SequenceMatcher.__chain_b") 447), (.str (S "/claim/cut.py") 448), (.int 236 0), (.int 1 0), (.int 0 0), (.int 0 0), (.int 3 0), (.ref 182), (.bool true), (.int 181 0), (.ref 183), .none, (.ref 184), (.ref 185), (.ref 186), (.int 461 0), (.int 236 0), (.str (S "/claim/cut.py") 462)]), #[]⟩),
  (188, ⟨(.type "function"), none, (.func (fnD (inS (topS p 5) 5) (S "SequenceMatcher.__chain_b") .none .none 0 (.str (S "cpy313.difflib") 194) none (.ref 187) .none [])), #[]⟩),
  (189, ⟨(.type "tuple"), none, (.seq #[(.int 0 464), .none, (.int 0 465), .none] 0), #[]⟩),
  (195, ⟨(.type "code"), none, (.fields #[(.str (S "find_longest_match") 466), (.str (S "SequenceMatcher.find_longest_match") 467), (.str (S "/claim/cut.py") 468), (.int 260 0), (.int 5 0), (.int 0 0), (.int 0 0), (.int 3 0), (.ref 190), (.bool true), (.int 181 0), (.ref 191), .none, (.ref 192), (.ref 193), (.ref 194), (.int 488 0), (.int 260 0), (.str (S "/claim/cut.py") 489)]), #[]⟩),
  (196, ⟨(.type "function"), none, (.func (fnD (inS (topS p 5) 6) (S "SequenceMatcher.find_longest_match") (.ref 189) .none 490 (.str (S "cpy313.difflib") 194) none (.ref 195) .none [])), #[]⟩),
  (202, ⟨(.type "code"), none, (.fields #[(.str (S "get_matching_blocks") 492), (.str (S "SequenceMatcher.get_matching_blocks") 493), (.str (S "/claim/cut.py") 494), (.int 335 0), (.int 1 0), (.int 0 0), (.int 0 0), (.int 3 0), (.ref 197), (.bool true), (.int 181 0), (.ref 198), .none, (.ref 199), (.ref 200), (.ref 201), (.int 515 0), (.int 335 0), (.str (S "/claim/cut.py") 516)]), #[]⟩),
  (203, ⟨(.type "function"), none, (.func (fnD (inS (topS p 5) 7) (S "SequenceMatcher.get_matching_blocks") .none .none 517 (.str (S "cpy313.difflib") 194) none (.ref 202) .none [])), #[]⟩),
  (209, ⟨(.type "code"), none, (.fields #[(.str (S "get_opcodes") 519), (.str (S "SequenceMatcher.get_opcodes") 520), (.str (S "/claim/cut.py") 521), (.int 383 0), (.int 1 0), (.int 0 0), (.int 0 0), (.int 3 0), (.ref 204), (.bool true), (.int 181 0), (.ref 205), .none, (.ref 206), (.ref 207), (.ref 208), (.int 530 0), (.int 383 0), (.str (S "/claim/cut.py") 531)]), #[]⟩),
  (210, ⟨(.type "function"), none, (.func (fnD (inS (topS p 5) 8) (S "SequenceMatcher.get_opcodes") .none .none 532 (.str (S "cpy313.difflib") 194) none (.ref 209) .none [])), #[]⟩),
  (211, ⟨(.type "tuple"), none, (.seq #[(.int 3 534)] 0), #[]⟩),
  (217, ⟨(.type "code"), none, (.fields #[(.str (S "get_grouped_opcodes") 535), (.str (S "SequenceMatcher.get_grouped_opcodes") 536), (.str (S "/claim/cut.py") 537), (.int 430 0), (.int 2 0), (.int 0 0), (.int 0 0), (.int 3 0), (.ref 212), (.bool true), (.int 181 0), (.ref 213), .none, (.ref 214), (.ref 215), (.ref 216), (.int 540 0), (.int 430 0), (.str (S "/claim/cut.py") 541)]), #[]⟩),
  (218, ⟨(.type "function"), none, (.func (fnD (inS (topS p 5) 9) (S "SequenceMatcher.get_grouped_opcodes") (.ref 211) .none 0 (.str (S "cpy313.difflib") 194) none (.ref 217) .none [])), #[]⟩),
  (224, ⟨(.type "code"), none, (.fields #[(.str (S "ratio") 543), (.str (S "SequenceMatcher.ratio") 544), (.str (S "/claim/cut.py") 545), (.int 433 0), (.int 1 0), (.int 0 0), (.int 0 0), (.int 3 0), (.ref 219), (.bool true), (.int 181 0), (.ref 220), .none, (.ref 221), (.ref 222), (.ref 223), (.int 548 0), (.int 433 0), (.str (S "/claim/cut.py") 549)]), #[]⟩),
  (225, ⟨(.type "function"), none, (.func (fnD (inS (topS p 5) 10) (S "SequenceMatcher.ratio") .none .none 550 (.str (S "cpy313.difflib") 194) none (.ref 224) .none [])), #[]⟩),
  (231, ⟨(.type "code"), none, (.fields #[(.str (S "quick_ratio") 552), (.str (S "SequenceMatcher.quick_ratio") 553), (.str (S "/claim/cut.py") 554), (.int 457 0), (.int 1 0), (.int 0 0), (.int 0 0), (.int 3 0), (.ref 226), (.bool true), (.int 181 0), (.ref 227), .none, (.ref 228), (.ref 229), (.ref 230), (.int 556 0), (.int 457 0), (.str (S "/claim/cut.py") 557)]), #[]⟩),
  (232, ⟨(.type "function"), none, (.func (fnD (inS (topS p 5) 11) (S "SequenceMatcher.quick_ratio") .none .none 0 (.str (S "cpy313.difflib") 194) none (.ref 231) .none [])), #[]⟩),
  (238, ⟨(.type "code"), none, (.fields #[(.str (S "real_quick_ratio") 559), (.str (S "SequenceMatcher.real_quick_ratio") 560), (.str (S "/claim/cut.py") 561), (.int 460 0), (.int 1 0), (.int 0 0), (.int 0 0), (.int 3 0), (.ref 233), (.bool true), (.int 181 0), (.ref 234), .none, (.ref 235), (.ref 236), (.ref 237), (.int 563 0), (.int 460 0), (.str (S "/claim/cut.py") 564)]), #[]⟩),
  (239, ⟨(.type "function"), none, (.func (fnD (inS (topS p 5) 12) (S "SequenceMatcher.real_quick_ratio") .none .none 0 (.str (S "cpy313.difflib") 194) none (.ref 238) .none [])), #[]⟩),
  (241, ⟨(.type "dict"), none, (.dict #[⟨(PyData.keyHash P (S "__module__")), (.str (S "__module__") 396), (.str (S "cpy313.difflib") 194)⟩, ⟨(PyData.keyHash P (S "__firstlineno__")), (.str (S "__firstlineno__") 400), (.int 70 399)⟩, ⟨(PyData.keyHash P (S "__doc__")), (.str (S "__doc__") 402), (.str (docS (topS p 5)) 401)⟩, ⟨(PyData.keyHash P (S "__init__")), (.str (S "__init__") 417), (.ref 160)⟩, ⟨(PyData.keyHash P (S "set_seqs")), (.str (S "set_seqs") 427), (.ref 167)⟩, ⟨(PyData.keyHash P (S "set_seq1")), (.str (S "set_seq1") 436), (.ref 174)⟩, ⟨(PyData.keyHash P (S "set_seq2")), (.str (S "set_seq2") 445), (.ref 181)⟩, ⟨(PyData.keyHash P (S "_SequenceMatcher__chain_b")), (.str (S "_SequenceMatcher__chain_b") 463), (.ref 188)⟩, ⟨(PyData.keyHash P (S "find_longest_match")), (.str (S "find_longest_match") 491), (.ref 196)⟩, ⟨(PyData.keyHash P (S "get_matching_blocks")), (.str (S "get_matching_blocks") 518), (.ref 203)⟩, ⟨(PyData.keyHash P (S "get_opcodes")), (.str (S "get_opcodes") 533), (.ref 210)⟩, ⟨(PyData.keyHash P (S "get_grouped_opcodes")), (.str (S "get_grouped_opcodes") 542), (.ref 218)⟩, ⟨(PyData.keyHash P (S "ratio")), (.str (S "ratio") 551), (.ref 225)⟩, ⟨(PyData.keyHash P (S "quick_ratio")), (.str (S "quick_ratio") 558), (.ref 232)⟩, ⟨(PyData.keyHash P (S "real_quick_ratio")), (.str (S "real_quick_ratio") 565), (.ref 239)⟩, ⟨(PyData.keyHash P (S "__static_attributes__")), (.str (S "__static_attributes__") 576), (.ref 240)⟩, ⟨(PyData.keyHash P (S "__dict__")), (.str (S "__dict__") 578), (.ref 243)⟩, ⟨(PyData.keyHash P (S "__weakref__")), (.str (S "__weakref__") 580), (.ref 244)⟩] 3), #[]⟩),
  (242, ⟨(.type "type"), none, (.cls { name := (S "SequenceMatcher"), bases := [(.type "object")], mro := [(.ref 242), (.type "object")], ns := 241, qualname := (S "SequenceMatcher"), hasDict := true, slotNames := [], subclasses := [], abstract := false, collection := none, hasDel := false }), #[none, none, (some (.str (S "SequenceMatcher") 389)), (some (.str (S "SequenceMatcher") 397)), (some (.builtin "object.__new__")), (some (.bool true))]⟩),
  (250, ⟨(.type "code"), none, (.fields #[(.str (S "_law_deed") 585), (.str (S "_law_deed") 586), (.str (S "/claim/cut.py") 587), (.int 463 0), (.int 3 0), (.int 0 0), (.int 0 0), (.int 3 0), (.ref 247), (.bool true), (.int 181 0), (.ref 248), .none, .none, .none, (.ref 249), (.int 588 0), (.int 463 0), (.str (S "/claim/cut.py") 589)]), #[]⟩),
  (251, ⟨(.type "function"), none, (.func (fnD (topS p 7) (S "_law_deed") .none .none 0 (.str (S "law_dm0058_12") 583) none (.ref 250) .none [])), #[]⟩),
  (255, ⟨(.type "code"), none, (.fields #[(.str (S "_law_read") 591), (.str (S "_law_read") 592), (.str (S "/claim/cut.py") 593), (.int 485 0), (.int 5 0), (.int 0 0), (.int 0 0), (.int 3 0), (.ref 252), (.bool true), (.int 181 0), (.ref 253), .none, .none, .none, (.ref 254), (.int 594 0), (.int 485 0), (.str (S "/claim/cut.py") 595)]), #[]⟩),
  (256, ⟨(.type "function"), none, (.func (fnD (topS p 8) (S "_law_read") .none .none 0 (.str (S "law_dm0058_12") 583) none (.ref 255) .none [])), #[]⟩),
  (260, ⟨(.type "code"), none, (.fields #[(.str (S "law") 597), (.str (S "law") 598), (.str (S "/claim/cut.py") 599), (.int 506 0), (.int 1 0), (.int 0 0), (.int 0 0), (.int 3 0), (.ref 257), (.bool true), (.int 181 0), (.ref 258), .none, .none, .none, (.ref 259), (.int 600 0), (.int 506 0), (.str (S "/claim/cut.py") 601)]), #[]⟩),
  (261, ⟨(.type "function"), none, (.func (fnD (topS p 9) (S "law") .none .none 0 (.str (S "law_dm0058_12") 583) none (.ref 260) .none [])), #[]⟩)]
noncomputable def Kas : List Addr := [2, 3, 20, 21, 68, 75, 81, 82, 88, 89, 90, 91, 92, 99, 100, 106, 107, 113, 114, 120, 121, 134, 135, 136, 144, 145, 153, 159, 160, 166, 167, 173, 174, 180, 181, 187, 188, 189, 195, 196, 202, 203, 209, 210, 211, 217, 218, 224, 225, 231, 232, 238, 239, 241, 242, 250, 251, 255, 256, 260, 261]

theorem Zqz (p : Program) (P : Params) : Kas = (KP p P).map (·.1) := rfl
noncomputable def xtV (s : Shared) : Bool := xlAt qV [] s && recOk [] s
noncomputable def obsT (w : World) (s : SharedT) := ((staticsOk (importedModules pT.main.body) (boot_heap w.params) s.abs.heap && namesBound pT s.abs.heap && gensDone s.abs && laidKept (boot_heap w.params) s.abs.heap),
  PySem.W.Fast.tw4187177175401517315 qV Zb8 (importedModules pT.main.body) xtV true s.abs, Kas.map s.abs.heap.get?, s.os)
set_option maxRecDepth 100000 in
theorem big : ∀ (w : World), (fun os => (theRun w os).map (obsT w)) = (fun os => some (true, openGood qV Zb8, (KP pT w.params).map (fun p => some p.2), os)) := fun w => by kernel_rfl
noncomputable def hkV : Hook := kHook (KP PySem.Challenge.pw_dm0058_12) Kas (Zqz _)
theorem Zr5 : ∀ w : World, (fencedOpening treeTable PySem.Challenge.pw_dm0058_12 w 4600).map (fun s => (s.heap, s.gens, s.drawn, s.toks)) = some (boot_heap w.params, Array.mk [], boot_drawn, boot_toks) :=
  boot_open rfl (by decide) (fun _ => rfl)
theorem Zrd (w : World) : ((boot_heap w.params).isNs mainGlobals && (Array.mk [] : Array GenState).size == 0, (boot_heap w.params).objs.size, (boot_heap w.params).nsMap mainGlobals "__annotations__") = (true, 11, some (.ref 6)) := by kernel_rfl
theorem Zpt (w : World) (os : OsState) : (S0 w os).abs = ⟨boot_heap w.params, #[], boot_drawn, boot_toks, os⟩ := by
  unfold S0 SharedT.abs
  rw [Zm3]
theorem runV {w : World} {os : OsState} {s' : SharedT} (hs : theRun w os = some s') : topRun treeTable PySem.Challenge.pw_dm0058_12 w 11 (some (.ref 6)) 4600 ⟨boot_heap w.params, #[], boot_drawn, boot_toks, os⟩ (topStub PySem.Challenge.pw_dm0058_12) = some s'.abs := by
  unfold theRun at hs
  have r := Ze1 hs
  rw [Zpt, ← Zmf] at r
  exact topRun_mono 2300 _ _ _ _ r
theorem bigV (w : World) (os : OsState) : (theRun w os).map (obsT w) = some (true, openGood qV Zb8, (KP pT w.params).map (fun p => some p.2), os) := congrFun (big w) os
theorem obsV {w : World} {os : OsState} {s' : SharedT} (hs : theRun w os = some s') : obsT w s' = (true, openGood qV Zb8, (KP pT w.params).map (fun p => some p.2), os) := by
  have b := bigV w os
  rw [hs] at b
  exact Option.some.inj b
theorem Zro {w : World} {os : OsState} {s' : SharedT} (hs : theRun w os = some s') :
    (staticsOk (importedModules PySem.Challenge.pw_dm0058_12.main.body) (boot_heap w.params) s'.abs.heap && namesBound PySem.Challenge.pw_dm0058_12 s'.abs.heap && gensDone s'.abs && laidKept (boot_heap w.params) s'.abs.heap) = true := by
  rw [Zmf]; exact congrArg (·.1) (obsV hs)
theorem Zrn {w : World} {os : OsState} {s' : SharedT} (hs : theRun w os = some s') : openSeen qV Zb8 (importedModules PySem.Challenge.pw_dm0058_12.main.body) xtV true s'.abs = openGood qV Zb8 := by
  rw [Zmf, PySem.W.Fast.te4187177175401517315]; exact congrArg (·.2.1) (obsV hs)
theorem Zrm {w : World} {os : OsState} {s' : SharedT} (hs : theRun w os = some s') : Kas.map s'.abs.heap.get? = (KP PySem.Challenge.pw_dm0058_12 w.params).map (fun p => some p.2) := by
  rw [Zmf]; exact congrArg (·.2.2.1) (obsV hs)
theorem topV {w : World} {os : OsState} {s' : SharedT} (hs : theRun w os = some s') : topFrom treeTable PySem.Challenge.pw_dm0058_12 w 4600 ⟨boot_heap w.params, #[], boot_drawn, boot_toks, os⟩ = some s'.abs := by
  obtain ⟨z1, z2, z3⟩ : _ ∧ _ ∧ _ := by simpa only [Prod.mk.injEq] using Zrd w
  unfold topFrom
  dsimp only
  rw [z1, z2, z3, runV hs]
  show (match staticsOk _ _ _ && namesBound _ _ && gensDone _ && laidKept _ _ with | true => _ | false => _) = _
  rw [Zro hs]
theorem Zrc (w : World) (os : OsState) : ∃ s', theRun w os = some s' := by
  have b := bigV w os
  revert b
  generalize theRun w os = x
  cases x with
  | none => intro b; cases b
  | some s' => intro _; exact ⟨s', rfl⟩
theorem Zp7 {w : World} {os : OsState} {s' : SharedT} (hs : theRun w os = some s') : Hook.obs hkV s'.abs = Hook.val hkV w := Zrm hs
theorem Zrl {w : World} {os : OsState} {s' : SharedT} (hs : theRun w os = some s') : (topFrom treeTable PySem.Challenge.pw_dm0058_12 w 4600 ⟨boot_heap w.params, #[], boot_drawn, boot_toks, os⟩).map (fun s => (openSeen qV Zb8 (importedModules PySem.Challenge.pw_dm0058_12.main.body) xtV true s, Hook.obs hkV s)) = some (openGood qV Zb8, Hook.val hkV w) := by
  rw [topV hs]
  show some (openSeen qV Zb8 (importedModules PySem.Challenge.pw_dm0058_12.main.body) xtV true s'.abs, Hook.obs hkV s'.abs) = _
  rw [Zrn hs, Zp7 hs]
theorem Zqp (w : World) : ∃ os, fencedOpening treeTable PySem.Challenge.pw_dm0058_12 w 4600 = some ⟨boot_heap w.params, #[], boot_drawn, boot_toks, os⟩ := by
  have b := Zr5 w
  revert b
  generalize fencedOpening treeTable PySem.Challenge.pw_dm0058_12 w 4600 = x
  cases x with
  | none => intro b; cases b
  | some s =>
    obtain ⟨h, gs, d, k, os⟩ := s
    intro b
    have b := Option.some.inj b
    have e1 : h = boot_heap w.params := congrArg (·.1) b
    have e2 : gs = #[] := congrArg (·.2.1) b
    have e3 : d = boot_drawn := congrArg (·.2.2.1) b
    have e4 : k = boot_toks := congrArg (·.2.2.2) b
    exact ⟨os, by rw [e1, e2, e3, e4]⟩
theorem left : LeftO PySem.Challenge.pw_dm0058_12 qV Zb8 xtV (Hook.obs hkV) (Hook.val hkV) 4600 := by
  intro w
  obtain ⟨os, e⟩ := Zqp w
  obtain ⟨s', hs⟩ := Zrc w os
  unfold openEnds
  rw [e]
  rw [Option.bind_some]
  exact Zrl hs

noncomputable abbrev Zft (w : World) (s : Shared) (l : Addr) : Prop :=
  wpAny (model PySem.Challenge.pw_dm0058_12 w) callerA (call (.ref 261) [.ref l])
    (fun v s' => v = .bool true ∧ OldK s.heap s'.heap ∧ s'.os = s.os ∧ AllBare s'.gens) (fun _ _ => False) s
theorem Zp3 {w : World} {h : Heap} {mg : PySem.Str → Option Value} (X : (KP PySem.Challenge.pw_dm0058_12 w.params).In h) (g : h.Ns mainGlobals mg) : mg (S "law") = some (.ref 261) := by
  obtain ⟨o, es, ep, ho, hd, _, hm⟩ := g
  rw [← hm]
  have e := X 3 _ (show _ = some _ from rfl)
  rw [show mainGlobals = 3 from rfl, e] at ho
  cases ho
  cases hd
  kernel_rfl
set_option maxHeartbeats 8000000 in
theorem head (walk : ∀ (w : World) (s : Shared) (mean : ExcName → Option Value) (mg mb : PySem.Str → Option Value) (l : Addr) (vs : List Value) (ns : List Int),
      Top qV (looseW qV Zb8) mean mg mb s.heap → (KP PySem.Challenge.pw_dm0058_12 w.params).In s.heap → s.gens = #[] → s.heap.IsList l vs.toArray → IntsAre vs ns → ns.length ≤ 63 →
      (PyData.list (ns.map PyData.int)).layable0 = true → Zft w s l) : PySem.Challenge.rw_dm0058_12.Holds := by
  w_on
  refine holds_law (by kernel_rfl) fun said => ?_
  refine holds_open (q := qV) (loose := Zb8) (Xt := xtV) (XP := XL qV []) (Yf := Hook.obs hkV) (Ya := Hook.val hkV) (YP := Hook.says hkV) (N := 4600) left (Hook.of hkV) (Hook.keeps hkV) (fun s e => xl_of s (Bool.and_eq_true_iff.mp e).1) XL.keeps (by rfl) (by rfl) (by rfl) (fun s e => recFacts_of (Bool.and_eq_true_iff.mp e).2) (by rfl) (by assumption) (by decide +kernel) ⟨rfl, rfl, rfl, rfl, rfl, by decide +kernel⟩ ?hw ?hc
  case hw => w_witness2
  intro w s₀ s₁ mg mb G Y fa o pm cd doc dV kV ho hd hcd hD hmg hg args vals as hpre hlay hrd hwl hlo
  have X : (KP PySem.Challenge.pw_dm0058_12 w.params).In s₁.heap := Y
  have T := G.T
  clear ho hd hcd hD Y
  have hfa : fa = 261 := by
    have h1 := Zp3 X T.g
    have h2 : mg (S "law") = some (.ref fa) := hmg
    rw [h1] at h2
    cases h2
    rfl
  subst hfa
  clear hmg
  wrow_args hpre hlay hrd hwl hlo
  rename_i ns _ _ hL _ _ _ _ l vs _ hl _ _ _ hI _ hc _
  refine wpAny_mono (walk w s₁ _ mg mb l vs ns T X hg hl hI (by omega) hL) (fun v s' h => ?_) (fun _ _ h => h.elim)
  obtain ⟨hv, hk, hos, hb⟩ := h
  subst hv
  exact ⟨.inl ⟨_, .bool true, [], rfl, fun _ => rfl, .bool true, by kernel_rfl, fun _ => ⟨List.nodup_nil, fun _ h => by cases h⟩⟩, hk, hos, hb⟩
set_option tactic.hygienic false
noncomputable abbrev PW := PySem.Challenge.pw_dm0058_12
noncomputable abbrev E0 : Value → Shared → Prop := fun _ _ => False
noncomputable def BadP (p : World × Shared) : Prop := ∃ (mean : ExcName → Option Value) (mg mb : PySem.Str → Option Value) (l : Addr) (vs : List Value) (ns : List Int), Top qV (looseW qV Zb8) mean mg mb p.2.heap ∧ (KP PySem.Challenge.pw_dm0058_12 p.1.params).In p.2.heap ∧ p.2.gens = #[] ∧ p.2.heap.IsList l vs.toArray ∧ IntsAre vs ns ∧ ns.length ≤ 63 ∧ ¬ Zft p.1 p.2 l
noncomputable def c0 : World × Shared := @Classical.epsilon _ ⟨(⟨fun _ _ => 0, { strHash := fun _ => 0, shareClass := fun _ => 0, mergeTok := fun t => t, idOf := fun _ => 0, idOfShared := fun _ _ => 0, followText := fun _ => true, idOfImm := fun _ => 0 }⟩, {})⟩ BadP
noncomputable def W0 : World := c0.1
noncomputable def B0 : Shared := c0.2
theorem Zru (walk : ∀ (mean : ExcName → Option Value) (mg mb : PySem.Str → Option Value) (l : Addr) (vs : List Value) (ns : List Int), Top qV (looseW qV Zb8) mean mg mb B0.heap → (KP PySem.Challenge.pw_dm0058_12 W0.params).In B0.heap → B0.gens = #[] → B0.heap.IsList l vs.toArray → IntsAre vs ns → ns.length ≤ 63 → Zft W0 B0 l) : PySem.Challenge.rw_dm0058_12.Holds :=
  head fun w s mean mg mb l vs ns T X hg hl hI hlen _ => Classical.byContradiction fun hn => by
    obtain ⟨mean, mg, mb, l, vs, ns, T, X, hg, hl, hI, hlen, hn⟩ := Classical.epsilon_spec (p := BadP) ⟨(w, s), mean, mg, mb, l, vs, ns, T, X, hg, hl, hI, hlen, hn⟩
    exact hn (walk mean mg mb l vs ns T X hg hl hI hlen)
inductive AV where
  | none
  | bool (b : Bool)
  | int (i : Int)
  | str (s : PySem.Str)
  | flt (x : UInt64)
  | ref (a : Addr)
  | ty (n : String)
  | bi (id : String)
  | tup (xs : List AV)
  | mat (xs : List AV)
noncomputable abbrev Loc := PySem.Str → Option AV
inductive AO where
  | list (xs : List AV)
  | ns (m : Loc)
  | atr (m : Loc)
  | obj (o : Obj)
  | cell (v : Option AV)
  | dict (kvs : List (Int × AV))
  | set (f : Int → Bool) (n : Nat)
noncomputable abbrev Hp := Addr → Option AO
noncomputable def Hp.set (hp : Hp) (a : Addr) (o : AO) : Hp := fun b => if b = a then some o else hp b
theorem Hp.ss (hp : Hp) (a : Addr) (o : AO) : (hp.set a o) a = some o := by simp [Hp.set]
theorem Hp.sn (hp : Hp) {a b : Addr} (o : AO) (h : b ≠ a) : (hp.set a o) b = hp b := by simp [Hp.set, h]
theorem Hp.snt {hp : Hp} {a b : Addr} {o : AO} {r : Option AO} (h : b ≠ a) (g : hp b = r) : (hp.set a o) b = r := (Hp.sn hp o h).trans g
theorem Hp.snr {hp : Hp} {a b : Addr} {o : AO} {r : Option AO} (h : b ≠ a) (g : (hp.set a o) b = r) : hp b = r := (Hp.sn hp o h).symm.trans g
theorem Hp.set_set (hp : Hp) (a : Addr) (o o' : AO) : (hp.set a o).set a o' = hp.set a o' := by
  funext b; by_cases h : b = a <;> simp [Hp.set, h]
theorem Hp.sc (hp : Hp) {a b : Addr} (o o' : AO) (h : a ≠ b) : (hp.set a o).set b o' = (hp.set b o').set a o := by
  funext c
  simp only [Hp.set]
  by_cases h1 : c = a
  · by_cases h2 : c = b
    · exact absurd (h1.symm.trans h2) h
    · simp [h1, h]
  · by_cases h2 : c = b
    · subst h2; simp [h1]
    · simp [h1, h2]
noncomputable abbrev matC : Addr := 135
noncomputable def Imm (o : Obj) : Prop := (o.cls = .type "tuple" ∨ o.cls = .ref matC) ∧ ∃ xs n, o.data = .seq xs n
noncomputable def ImmLe (h h' : Heap) : Prop := ∀ b o, h.get? b = some o → Imm o → h'.get? b = some o
theorem ImmLe.refl (h : Heap) : ImmLe h h := fun _ _ e _ => e
theorem ImmLe.trans {h₁ h₂ h₃ : Heap} (x : ImmLe h₁ h₂) (y : ImmLe h₂ h₃) : ImmLe h₁ h₃ := fun b o e i => y b o (x b o e i) i
theorem ImmLe.keep {h h' : Heap} (x : ∀ b o, h.get? b = some o → h'.get? b = some o) : ImmLe h h' := fun b o e _ => x b o e
noncomputable def IsMat (h : Heap) (a : Addr) (items : Array Value) : Prop := ∃ o, h.get? a = some o ∧ o.cls = .ref matC ∧ ∃ n, o.data = .seq items n
mutual
noncomputable def VR (h : Heap) : AV → Value → Prop
  | .none, v => v = .none
  | .bool b, v => v = .bool b
  | .int i, v => ∃ t, v = .int i t
  | .str s, v => ∃ t, v = .str s t
  | .flt x, v => ∃ t, v = .float x t
  | .ref a, v => v = .ref a
  | .ty n, v => v = .type n
  | .bi n, v => v = .builtin n
  | .tup xs, v => ∃ a vs, v = .ref a ∧ IsTup h a vs ∧ VRs h xs vs.toList
  | .mat xs, v => ∃ a vs, v = .ref a ∧ IsMat h a vs ∧ VRs h xs vs.toList
noncomputable def VRs (h : Heap) : List AV → List Value → Prop
  | [], vs => vs = []
  | x :: xs, vs => ∃ v r, vs = v :: r ∧ VR h x v ∧ VRs h xs r
end
theorem IsTup.imm {h h' : Heap} (le : ImmLe h h') {a : Addr} {vs : Array Value} (x : IsTup h a vs) : IsTup h' a vs := let ⟨o, ho, hc, n, r⟩ := x; ⟨o, le a o ho ⟨.inl hc, _, n, r⟩, hc, n, r⟩
theorem IsMat.imm {h h' : Heap} (le : ImmLe h h') {a : Addr} {vs : Array Value} (x : IsMat h a vs) : IsMat h' a vs := let ⟨o, ho, hc, n, r⟩ := x; ⟨o, le a o ho ⟨.inr hc, _, n, r⟩, hc, n, r⟩
mutual
theorem VR.mono {h h' : Heap} (le : ImmLe h h') : ∀ {x : AV} {v : Value}, VR h x v → VR h' x v
  | .none, _, e => by simpa only [VR] using e
  | .bool _, _, e => by simpa only [VR] using e
  | .int _, _, e => by simpa only [VR] using e
  | .str _, _, e => by simpa only [VR] using e
  | .flt _, _, e => by simpa only [VR] using e
  | .ref _, _, e => by simpa only [VR] using e
  | .ty _, _, e => by simpa only [VR] using e
  | .bi _, _, e => by simpa only [VR] using e
  | .tup xs, v, e => by
    simp only [VR] at e ⊢
    refine hide fun Gq kq => ?_
    obtain ⟨a, vs, e1, e2, e3⟩ := e
    refine kq ?_; clear kq Gq
    exact ⟨a, vs, e1, IsTup.imm le e2, VRs.mono le e3⟩
  | .mat xs, v, e => by
    simp only [VR] at e ⊢
    refine hide fun Gq kq => ?_
    obtain ⟨a, vs, e1, e2, e3⟩ := e
    refine kq ?_; clear kq Gq
    exact ⟨a, vs, e1, IsMat.imm le e2, VRs.mono le e3⟩
theorem VRs.mono {h h' : Heap} (le : ImmLe h h') : ∀ {xs : List AV} {vs : List Value}, VRs h xs vs → VRs h' xs vs
  | [], _, e => by simpa only [VRs] using e
  | x :: xs, vs, e => by
    simp only [VRs] at e ⊢
    obtain ⟨v, r, e1, e2, e3⟩ := e
    exact ⟨v, r, e1, VR.mono le e2, VRs.mono le e3⟩
end
theorem VRs.length {h : Heap} : ∀ {xs : List AV} {vs : List Value}, VRs h xs vs → vs.length = xs.length
  | [], _, e => by simp only [VRs] at e; subst e; rfl
  | x :: xs, vs, e => by
    simp only [VRs] at e
    obtain ⟨v, r, rfl, _, e3⟩ := e
    simp [VRs.length e3]
theorem VRs.append {h : Heap} : ∀ {xs ys : List AV} {vs ws : List Value}, VRs h xs vs → VRs h ys ws → VRs h (xs ++ ys) (vs ++ ws)
  | [], _, _, _, e, e' => by simp only [VRs] at e; subst e; exact e'
  | x :: xs, ys, vs, ws, e, e' => by
    simp only [VRs] at e
    obtain ⟨v, r, rfl, e2, e3⟩ := e
    simp only [List.cons_append, VRs]
    exact ⟨v, r ++ ws, rfl, e2, VRs.append e3 e'⟩
theorem VRs.one {h : Heap} {x : AV} {v : Value} (e : VR h x v) : VRs h [x] [v] := by simp only [VRs]; exact ⟨v, [], rfl, e, rfl⟩
theorem VRs.get {h : Heap} : ∀ {xs : List AV} {vs : List Value} {i : Nat} {x : AV}, VRs h xs vs → xs[i]? = some x → ∃ v, vs[i]? = some v ∧ VR h x v
  | [], _, _, _, _, e => by simp at e
  | y :: xs, vs, 0, x, e, hx => by
    simp only [VRs] at e
    obtain ⟨v, r, rfl, e2, _⟩ := e
    simp only [List.getElem?_cons_zero, Option.some.injEq] at hx
    subst hx
    exact ⟨v, rfl, e2⟩
  | y :: xs, vs, i + 1, x, e, hx => by
    simp only [VRs] at e
    obtain ⟨v, r, rfl, _, e3⟩ := e
    simp only [List.getElem?_cons_succ] at hx ⊢
    exact VRs.get e3 hx
theorem VRs.take {h : Heap} : ∀ {xs : List AV} {vs : List Value} (n : Nat), VRs h xs vs → VRs h (xs.take n) (vs.take n)
  | [], _, n, e => by simp only [VRs] at e; subst e; simp [VRs]
  | x :: xs, vs, 0, e => by simp [VRs]
  | x :: xs, vs, n + 1, e => by
    simp only [VRs] at e
    obtain ⟨v, r, rfl, e2, e3⟩ := e
    simp only [List.take_succ_cons, VRs]
    exact ⟨v, _, rfl, e2, VRs.take n e3⟩
theorem VRs.drop {h : Heap} : ∀ {xs : List AV} {vs : List Value} (n : Nat), VRs h xs vs → VRs h (xs.drop n) (vs.drop n)
  | [], _, n, e => by simp only [VRs] at e; subst e; simp [VRs]
  | x :: xs, vs, 0, e => by simpa using e
  | x :: xs, vs, n + 1, e => by
    simp only [VRs] at e
    obtain ⟨v, r, rfl, e2, e3⟩ := e
    simp only [List.drop_succ_cons]
    exact VRs.drop n e3
noncomputable def LocR (h : Heap) (m : Loc) (mv : PySem.Str → Option Value) : Prop := (∀ x v, m x = some v → ∃ u, mv x = some u ∧ VR h v u) ∧ ∀ x, m x = none → mv x = none
noncomputable def attrNames : List PySem.Str := ["isjunk", "a", "b", "autojunk", "matching_blocks", "opcodes", "fullbcount", "b2j", "bjunk", "bpopular"]
noncomputable def IPairs : List DictEntry → List (Int × Value) → Prop
  | [], ps => ps = []
  | e :: es, ps => ∃ kv r, ps = kv :: r ∧ Value.isInt kv.1 e.key = true ∧ e.val = kv.2 ∧ IPairs es r
noncomputable def IDict (h : Heap) (a : Addr) (ps : List (Int × Value)) : Prop :=
  ∃ o es ep, h.get? a = some o ∧ o.ExactDict ∧ o.data = .dict es ep ∧ (∀ e ∈ es, ∃ k, Value.isInt k e.key = true ∧ e.hash = hashInt k) ∧ IPairs es.toList ps ∧ (ps.map (·.1)).Nodup
noncomputable def ISet (h : Heap) (a : Addr) (f : Int → Bool) (n : Nat) : Prop :=
  ∃ o es ep t, h.get? a = some o ∧ o.ExactSet ∧ o.data = .set es ep t ∧ (∀ e ∈ es.toList, (∃ k, Value.isInt k e.2 = true ∧ e.1 = hashInt k) ∧ e.2.scannable = true) ∧ (∀ k, f k = true ↔ ∃ e ∈ es.toList, Value.isInt k e.2 = true)
    ∧ es.size < scanBound ∧ t.fits es.size = true ∧ es.size = n
noncomputable def CellR (h : Heap) : Option AV → Option Value → Prop
  | none, u => u = none
  | some v, u => ∃ x, u = some x ∧ VR h v x
theorem CellR.mono {h h' : Heap} (le : ImmLe h h') : ∀ {v : Option AV} {u : Option Value}, CellR h v u → CellR h' v u
  | none, _, e => e
  | some _, _, ⟨x, e, hv⟩ => ⟨x, e, hv.mono le⟩
noncomputable def OR (h : Heap) (a : Addr) : AO → Prop
  | .list xs => ∃ vs n, IsL h a vs n ∧ VRs h xs vs.toList
  | .ns m => ∃ mv, h.Ns a mv ∧ LocR h m mv
  | .atr m => ∃ mv, h.Ns1 a mv ∧ LocR h m mv ∧ Within mv attrNames
  | .obj o => h.get? a = some o ∧ ¬ Imm o
  | .cell v => ∃ o u, h.get? a = some o ∧ o.data = .cell u ∧ CellR h v u
  | .dict kvs => ∃ ps, IDict h a ps ∧ ps.map (·.1) = kvs.map (·.1) ∧ VRs h (kvs.map (·.2)) (ps.map (·.2))
  | .set f n => ISet h a f n
structure Rel (B0 : Shared) (hp : Hp) (s : Shared) : Prop where
  keep : ∀ b o, B0.heap.get? b = some o → s.heap.get? b = some o
  objs : ∀ a o, hp a = some o → B0.heap.objs.size ≤ a ∧ OR s.heap a o
  os : s.os = B0.os
  bare : AllBare s.gens ∧ B0.gens.size ≤ s.gens.size
  size : B0.heap.objs.size ≤ s.heap.objs.size
theorem LocR.mono {h h' : Heap} (le : ImmLe h h') {m : Loc} {mv : PySem.Str → Option Value} (x : LocR h m mv) : LocR h' m mv := ⟨fun y v e => let ⟨u, a, b⟩ := x.1 y v e; ⟨u, a, b.mono le⟩, x.2⟩
theorem OR.here {h h' : Heap} (le : ImmLe h h') {a : Addr} (e : ∀ o, h.get? a = some o → h'.get? a = some o) {o : AO} (x : OR h a o) : OR h' a o := by
  cases o with
  | list xs => obtain ⟨vs, n, x, y⟩ := x; exact ⟨vs, n, e _ x, y.mono le⟩
  | ns m => obtain ⟨mv, ⟨o, es, ep, ho, r⟩, y⟩ := x; exact ⟨mv, ⟨o, es, ep, e _ ho, r⟩, y.mono le⟩
  | atr m => obtain ⟨mv, ⟨o, es, ep, ho, r⟩, y⟩ := x; exact ⟨mv, ⟨o, es, ep, e _ ho, r⟩, y.1.mono le, y.2⟩
  | obj o => exact ⟨e _ x.1, x.2⟩
  | cell v => obtain ⟨o, u, ho, hd, hc⟩ := x; exact ⟨o, u, e _ ho, hd, hc.mono le⟩
  | dict kvs => obtain ⟨ps, ⟨o, es, ep, ho, r⟩, hk, hv⟩ := x; exact ⟨ps, ⟨o, es, ep, e _ ho, r⟩, hk, hv.mono le⟩
  | set f n => obtain ⟨o, es, ep, t, ho, r⟩ := x; exact ⟨o, es, ep, t, e _ ho, r⟩
theorem OR.ex {h : Heap} {a : Addr} {o : AO} (x : OR h a o) : ∃ ob, h.get? a = some ob := by
  cases o with
  | list xs => exact ⟨_, x.choose_spec.choose_spec.1⟩
  | ns m => obtain ⟨_, ⟨o, _, _, ho, _⟩, _⟩ := x; exact ⟨o, ho⟩
  | atr m => obtain ⟨_, ⟨o, _, _, ho, _⟩, _⟩ := x; exact ⟨o, ho⟩
  | obj o => exact ⟨_, x.1⟩
  | cell v => obtain ⟨o, _, ho, _⟩ := x; exact ⟨o, ho⟩
  | dict kvs => obtain ⟨_, ⟨o, _, _, ho, _⟩, _⟩ := x; exact ⟨o, ho⟩
  | set f n => obtain ⟨o, _, _, _, ho, _⟩ := x; exact ⟨o, ho⟩
theorem Rel.lt {s : Shared} {hp : Hp} (r : Rel B0 hp s) {a : Addr} {o : AO} (e : hp a = some o) : a < s.heap.objs.size := let ⟨_, h⟩ := (r.objs a o e).2.ex; Heap.lt_size h
theorem Rel.sub {s : Shared} {hp hp' : Hp} (r : Rel B0 hp s) (le : ∀ a o, hp' a = some o → hp a = some o) : Rel B0 hp' s := ⟨r.keep, fun a o e => r.objs a o (le a o e), r.os, r.bare, r.size⟩
theorem Rel.toks {s : Shared} {hp : Hp} (r : Rel B0 hp s) (t : Nat) : Rel B0 hp { s with toks := t } := ⟨r.keep, r.objs, r.os, r.bare, r.size⟩
theorem Rel.alloc {s : Shared} {hp : Hp} (r : Rel B0 hp s) (ob : Obj) (o : AO) (ho : OR (s.heap.push ob) s.heap.objs.size o) : Rel B0 (hp.set s.heap.objs.size o) { s with heap := s.heap.push ob } where
  keep b o' e := Heap.get?_push_of_some _ (r.keep b o' e)
  objs a o' e := by
    by_cases h : a = s.heap.objs.size
    · subst h
      rw [Hp.ss] at e
      cases e
      exact ⟨r.size, ho⟩
    · rw [Hp.sn _ _ h] at e
      have x := r.objs a o' e
      exact ⟨x.1, x.2.here (ImmLe.keep fun b o'' e => Heap.get?_push_of_some _ e) fun o'' e => Heap.get?_push_of_some _ e⟩
  os := r.os
  bare := r.bare
  size := Nat.le_trans r.size (by simp)
theorem Rel.push {s : Shared} {hp : Hp} (r : Rel B0 hp s) (ob : Obj) : Rel B0 hp { s with heap := s.heap.push ob } where
  keep b o' e := Heap.get?_push_of_some _ (r.keep b o' e)
  objs a o' e := ⟨(r.objs a o' e).1, (r.objs a o' e).2.here (ImmLe.keep fun b o'' e => Heap.get?_push_of_some _ e) fun o'' e => Heap.get?_push_of_some _ e⟩
  os := r.os
  bare := r.bare
  size := Nat.le_trans r.size (by simp)
theorem Rel.fresh {s : Shared} {hp : Hp} (r : Rel B0 hp s) : hp s.heap.objs.size = none := by
  cases h : hp s.heap.objs.size with
  | none => rfl
  | some o => exact absurd (r.lt h) (Nat.lt_irrefl _)
theorem Imm.no {h : Heap} {a : Addr} {o ob : Obj} (ho : h.get? a = some o) (e : h.get? a = some ob) (n : ∀ xs k, o.data ≠ .seq xs k) : ¬ Imm ob := fun ⟨_, xs, k, d⟩ => by
  rw [ho] at e; cases e; exact n _ _ d
theorem OR.notImm {h : Heap} {a : Addr} {o : AO} (x : OR h a o) (ob : Obj) (e : h.get? a = some ob) : ¬ Imm ob := by
  cases o with
  | list xs =>
    obtain ⟨_, _, x, _⟩ := x
    rw [show h.get? a = _ from x] at e; cases e
    intro i
    rcases i with ⟨i | i, _⟩
    · exact absurd (Value.type.inj i) (by decide)
    · cases i
  | ns m => obtain ⟨_, ⟨o, _, _, ho, hd, _⟩, _⟩ := x; exact Imm.no ho e fun _ _ h => by rw [hd] at h; cases h
  | atr m => obtain ⟨_, ⟨o, _, _, ho, hd, _⟩, _⟩ := x; exact Imm.no ho e fun _ _ h => by rw [hd] at h; cases h
  | obj o => rw [x.1] at e; cases e; exact x.2
  | cell v => obtain ⟨o, _, ho, hd, _⟩ := x; exact Imm.no ho e fun _ _ h => by rw [hd] at h; cases h
  | dict kvs => obtain ⟨_, ⟨o, _, _, ho, _, hd, _⟩, _⟩ := x; exact Imm.no ho e fun _ _ h => by rw [hd] at h; cases h
  | set f n => obtain ⟨o, _, _, _, ho, _, hd, _⟩ := x; exact Imm.no ho e fun _ _ h => by rw [hd] at h; cases h
theorem Rel.turn {s : Shared} {hp : Hp} (r : Rel B0 hp s) {a : Addr} {o : AO} (ha : hp a = some o) {h' : Heap} (hs : Heap.SameBut a s.heap h') (o' : AO) (ho : ImmLe s.heap h' → OR h' a o') (t : Nat) :
    Rel B0 (hp.set a o') { s with heap := h', toks := t } ∧ ImmLe s.heap h' := by
  have le : ImmLe s.heap h' := fun b ob e i => by
    by_cases h : b = a
    · subst h; exact absurd i ((r.objs b o ha).2.notImm ob e)
    · rw [hs.2 b h]; exact e
  refine ⟨⟨fun b ob e => ?_, fun b ob e => ?_, r.os, r.bare, by show _ ≤ h'.objs.size; rw [hs.1]; exact r.size⟩, le⟩
  · have : b ≠ a := by
      rintro rfl
      exact absurd (Heap.lt_size e) (Nat.not_lt.mpr (r.objs b o ha).1)
    show h'.get? b = some ob
    rw [hs.2 b this]; exact r.keep b ob e
  · by_cases h : b = a
    · subst h
      rw [Hp.ss] at e
      cases e
      exact ⟨(r.objs b o ha).1, ho le⟩
    · rw [Hp.sn _ _ h] at e
      have x := r.objs b ob e
      exact ⟨x.1, x.2.here le fun o'' e => by show h'.get? b = some o''; rw [hs.2 b h]; exact e⟩
section
variable {M : Model} {A : Around} {E : Value → Shared → Prop} {env : Env} {m : Loc} {hp : Hp}
noncomputable def EV (M : Model) (B0 : Shared) (E : Value → Shared → Prop) (A : Around) (env : Env) (e : Expr) (m : Loc) (hp : Hp) (Q : AV → Hp → Prop) : Prop :=
  ∀ s, Rel B0 (hp.set env.locals (.ns m)) s → wpAny M A (eval e env) (fun v s' => ∃ av hp', Rel B0 (hp'.set env.locals (.ns m)) s' ∧ ImmLe s.heap s'.heap ∧ VR s'.heap av v ∧ Q av hp') E s
noncomputable def TST (M : Model) (B0 : Shared) (E : Value → Shared → Prop) (A : Around) (env : Env) (e : Expr) (m : Loc) (hp : Hp) (Q : Bool → Hp → Prop) : Prop :=
  ∀ s, Rel B0 (hp.set env.locals (.ns m)) s → wpAny M A (isTrue e env (eval e env)) (fun b s' => ∃ hp', Rel B0 (hp'.set env.locals (.ns m)) s' ∧ ImmLe s.heap s'.heap ∧ Q b hp') E s
inductive AF where
  | next | brk | cont
  | ret (v : AV)
noncomputable def FR (h : Heap) : AF → Flow → Prop
  | .next, f => f = .next
  | .brk, f => f = .brk
  | .cont, f => f = .cont
  | .ret v, f => ∃ u, f = .ret u ∧ VR h v u
noncomputable def EX (M : Model) (B0 : Shared) (E : Value → Shared → Prop) (A : Around) (env : Env) (st : Stmt) (m : Loc) (hp : Hp) (Q : AF → Loc → Hp → Prop) : Prop :=
  ∀ s, Rel B0 (hp.set env.locals (.ns m)) s → wpAny M A (exec st env) (fun f s' => ∃ af m' hp', Rel B0 (hp'.set env.locals (.ns m')) s' ∧ ImmLe s.heap s'.heap ∧ FR s'.heap af f ∧ Q af m' hp') E s
noncomputable def EXs (M : Model) (B0 : Shared) (E : Value → Shared → Prop) (A : Around) (env : Env) (sts : List Stmt) (m : Loc) (hp : Hp) (Q : AF → Loc → Hp → Prop) : Prop :=
  ∀ s, Rel B0 (hp.set env.locals (.ns m)) s → wpAny M A (execs sts env) (fun f s' => ∃ af m' hp', Rel B0 (hp'.set env.locals (.ns m')) s' ∧ ImmLe s.heap s'.heap ∧ FR s'.heap af f ∧ Q af m' hp') E s
theorem mkV {B0 s s' : Shared} {L : Addr} {m : Loc} {Q : AV → Hp → Prop} {v : Value} {av : AV} {hp' : Hp} (r : Rel B0 (hp'.set L (.ns m)) s') (le : ImmLe s.heap s'.heap) (hv : VR s'.heap av v) (q : Q av hp') : ∃ av hp', Rel B0 (hp'.set L (.ns m)) s' ∧ ImmLe s.heap s'.heap ∧ VR s'.heap av v ∧ Q av hp' := ⟨av, hp', r, le, hv, q⟩
theorem mkT {B0 s s' : Shared} {L : Addr} {m : Loc} {Q : Hp → Prop} {hp' : Hp} (r : Rel B0 (hp'.set L (.ns m)) s') (le : ImmLe s.heap s'.heap) (q : Q hp') : ∃ hp', Rel B0 (hp'.set L (.ns m)) s' ∧ ImmLe s.heap s'.heap ∧ Q hp' := ⟨hp', r, le, q⟩
theorem mkA {B0 s s' : Shared} {L : Addr} {Q : Loc → Hp → Prop} {m' : Loc} {hp' : Hp} (r : Rel B0 (hp'.set L (.ns m')) s') (le : ImmLe s.heap s'.heap) (q : Q m' hp') : ∃ m' hp', Rel B0 (hp'.set L (.ns m')) s' ∧ ImmLe s.heap s'.heap ∧ Q m' hp' := ⟨m', hp', r, le, q⟩
theorem mkX {B0 s s' : Shared} {L : Addr} {Q : AF → Loc → Hp → Prop} {f : Flow} {af : AF} {m' : Loc} {hp' : Hp} (r : Rel B0 (hp'.set L (.ns m')) s') (le : ImmLe s.heap s'.heap) (hf : FR s'.heap af f) (q : Q af m' hp') : ∃ af m' hp', Rel B0 (hp'.set L (.ns m')) s' ∧ ImmLe s.heap s'.heap ∧ FR s'.heap af f ∧ Q af m' hp' := ⟨af, m', hp', r, le, hf, q⟩
theorem useV {M : Model} {A : Around} {X : Sem Value} {s : Shared} {L : Addr} {m : Loc} {Q : AV → Hp → Prop} {E : Value → Shared → Prop} {W : Value → Shared → Prop} (h : wpAny M A X (fun v s' => ∃ av hp', Rel B0 (hp'.set L (.ns m)) s' ∧ ImmLe s.heap s'.heap ∧ VR s'.heap av v ∧ Q av hp') E s) (k : ∀ v s' av hp', Rel B0 (hp'.set L (.ns m)) s' → ImmLe s.heap s'.heap → VR s'.heap av v → Q av hp' → W v s') : wpAny M A X W E s :=
  wpAny_mono h (fun v s' ⟨av, hp', r, le, hv, q⟩ => k v s' av hp' r le hv q) fun _ _ x => x
theorem Zn4 {M : Model} {A : Around} {X : Sem Value} {s : Shared} {L : Addr} {m : Loc} {Q : AV → Hp → Prop} {E : Value → Shared → Prop} {W : Value → Shared → Prop} (h : wpAny M A X (fun v s' => ∃ av hp', Rel B0 (hp'.set L (.ns m)) s' ∧ ImmLe s.heap s'.heap ∧ VR s'.heap av v ∧ Q av hp') (fun _ _ => False) s) (k : ∀ v s' av hp', Rel B0 (hp'.set L (.ns m)) s' → ImmLe s.heap s'.heap → VR s'.heap av v → Q av hp' → W v s') : wpAny M A X W E s :=
  wpAny_mono h (fun v s' ⟨av, hp', r, le, hv, q⟩ => k v s' av hp' r le hv q) fun _ _ x => x.elim
theorem Zc3 {M : Model} {A : Around} {X : Sem (List Value)} {s : Shared} {L : Addr} {m : Loc} {Q : List AV → Hp → Prop} {E : Value → Shared → Prop} {W : (List Value) → Shared → Prop} (h : wpAny M A X (fun v s' => ∃ av hp', Rel B0 (hp'.set L (.ns m)) s' ∧ ImmLe s.heap s'.heap ∧ VRs s'.heap av v ∧ Q av hp') E s) (k : ∀ v s' av hp', Rel B0 (hp'.set L (.ns m)) s' → ImmLe s.heap s'.heap → VRs s'.heap av v → Q av hp' → W v s') : wpAny M A X W E s :=
  wpAny_mono h (fun v s' ⟨av, hp', r, le, hv, q⟩ => k v s' av hp' r le hv q) fun _ _ x => x
theorem useT {M : Model} {A : Around} {X : Sem Bool} {s : Shared} {L : Addr} {m : Loc} {Q : Bool → Hp → Prop} {E : Value → Shared → Prop} {W : Bool → Shared → Prop} (h : wpAny M A X (fun v s' => ∃ hp', Rel B0 (hp'.set L (.ns m)) s' ∧ ImmLe s.heap s'.heap ∧ Q v hp') E s) (k : ∀ v s' hp', Rel B0 (hp'.set L (.ns m)) s' → ImmLe s.heap s'.heap → Q v hp' → W v s') : wpAny M A X W E s :=
  wpAny_mono h (fun v s' ⟨hp', r, le, q⟩ => k v s' hp' r le q) fun _ _ x => x
theorem Zpo {M : Model} {A : Around} {X : Sem Bool} {s : Shared} {L : Addr} {m : Loc} {Q : Bool → Hp → Prop} {E : Value → Shared → Prop} {W : Bool → Shared → Prop} (h : wpAny M A X (fun v s' => ∃ hp', Rel B0 (hp'.set L (.ns m)) s' ∧ ImmLe s.heap s'.heap ∧ Q v hp') (fun _ _ => False) s) (k : ∀ v s' hp', Rel B0 (hp'.set L (.ns m)) s' → ImmLe s.heap s'.heap → Q v hp' → W v s') : wpAny M A X W E s :=
  wpAny_mono h (fun v s' ⟨hp', r, le, q⟩ => k v s' hp' r le q) fun _ _ x => x.elim
theorem useA {M : Model} {A : Around} {X : Sem Unit} {s : Shared} {L : Addr} {Q : Loc → Hp → Prop} {E : Value → Shared → Prop} {W : Unit → Shared → Prop} (h : wpAny M A X (fun v s' => ∃ m' hp', Rel B0 (hp'.set L (.ns m')) s' ∧ ImmLe s.heap s'.heap ∧ Q m' hp') E s) (k : ∀ v s' m' hp', Rel B0 (hp'.set L (.ns m')) s' → ImmLe s.heap s'.heap → Q m' hp' → W v s') : wpAny M A X W E s :=
  wpAny_mono h (fun v s' ⟨m', hp', r, le, q⟩ => k v s' m' hp' r le q) fun _ _ x => x
theorem Zn5 {M : Model} {A : Around} {X : Sem Unit} {s : Shared} {L : Addr} {Q : Loc → Hp → Prop} {E : Value → Shared → Prop} {W : Unit → Shared → Prop} (h : wpAny M A X (fun v s' => ∃ m' hp', Rel B0 (hp'.set L (.ns m')) s' ∧ ImmLe s.heap s'.heap ∧ Q m' hp') (fun _ _ => False) s) (k : ∀ v s' m' hp', Rel B0 (hp'.set L (.ns m')) s' → ImmLe s.heap s'.heap → Q m' hp' → W v s') : wpAny M A X W E s :=
  wpAny_mono h (fun v s' ⟨m', hp', r, le, q⟩ => k v s' m' hp' r le q) fun _ _ x => x.elim
theorem useX {M : Model} {A : Around} {X : Sem Flow} {s : Shared} {L : Addr} {Q : AF → Loc → Hp → Prop} {E : Value → Shared → Prop} {W : Flow → Shared → Prop} (h : wpAny M A X (fun v s' => ∃ af m' hp', Rel B0 (hp'.set L (.ns m')) s' ∧ ImmLe s.heap s'.heap ∧ FR s'.heap af v ∧ Q af m' hp') E s) (k : ∀ v s' af m' hp', Rel B0 (hp'.set L (.ns m')) s' → ImmLe s.heap s'.heap → FR s'.heap af v → Q af m' hp' → W v s') : wpAny M A X W E s :=
  wpAny_mono h (fun v s' ⟨af, m', hp', r, le, hf, q⟩ => k v s' af m' hp' r le hf q) fun _ _ x => x
theorem Zn3 {M : Model} {A : Around} {X : Sem Flow} {s : Shared} {L : Addr} {Q : AF → Loc → Hp → Prop} {E : Value → Shared → Prop} {W : Flow → Shared → Prop} (h : wpAny M A X (fun v s' => ∃ af m' hp', Rel B0 (hp'.set L (.ns m')) s' ∧ ImmLe s.heap s'.heap ∧ FR s'.heap af v ∧ Q af m' hp') (fun _ _ => False) s) (k : ∀ v s' af m' hp', Rel B0 (hp'.set L (.ns m')) s' → ImmLe s.heap s'.heap → FR s'.heap af v → Q af m' hp' → W v s') : wpAny M A X W E s :=
  wpAny_mono h (fun v s' ⟨af, m', hp', r, le, hf, q⟩ => k v s' af m' hp' r le hf q) fun _ _ x => x.elim
theorem Zag {Q : AF → Loc → Hp → Prop} (h : Q .next m hp) : EXs M B0 E A env [] m hp Q := fun s r => wpAny_execs_nil ⟨.next, m, hp, r, .refl _, rfl, h⟩
noncomputable abbrev SEQ (M : Model) (A : Around) (E : Value → Shared → Prop) (B0 : Shared) (env : Env) (rest : List Stmt) (Q : AF → Loc → Hp → Prop) : AF → Loc → Hp → Prop := fun f m' hp' => match f with | .next => EXs M B0 E A env rest m' hp' Q | f => Q f m' hp'
theorem Zac {st : Stmt} {rest : List Stmt} {Q : AF → Loc → Hp → Prop}
    (h : EX M B0 E A env st m hp (SEQ M A E B0 env rest Q)) : EXs M B0 E A env (st :: rest) m hp Q := fun s r => by
  refine wpAny_execs_cons (wpAny_mono (h s r) (fun f s' x => ?_) fun _ _ x => x)
  refine hide fun Gq kq => ?_
  obtain ⟨af, m', hp', r', le, hf, q⟩ := x
  refine kq ?_; clear kq Gq
  cases af with
  | next => cases hf; exact useX (q s' r') fun f s'' af m'' hp'' r'' le' hf q => ⟨af, m'', hp'', r'', le.trans le', hf, q⟩
  | brk => cases hf; exact ⟨.brk, m', hp', r', le, rfl, q⟩
  | cont => cases hf; exact ⟨.cont, m', hp', r', le, rfl, q⟩
  | ret v => obtain ⟨u, rfl, hv⟩ := hf; exact ⟨.ret v, m', hp', r', le, ⟨u, rfl, hv⟩, q⟩
theorem Zaj {i : Int} {k pos} {Q : AV → Hp → Prop} (h : Q (.int i) hp) : EV M B0 E A env (.Constant (.int i) k pos) m hp Q := fun s r =>
  wpAny_Constant_int ⟨.int i, hp, r.toks _, .refl _, by simp only [VR]; exact ⟨_, rfl⟩, h⟩
theorem Zbk {x : PySem.Str} {k pos} {Q : AV → Hp → Prop} (h : Q (.str x) hp) : EV M B0 E A env (.Constant (.str x) k pos) m hp Q := fun s r =>
  wpAny_Constant_str ⟨.str x, hp, r.toks _, .refl _, by simp only [VR]; exact ⟨_, rfl⟩, h⟩
theorem Zcv {k pos} {Q : AV → Hp → Prop} (h : Q .none hp) : EV M B0 E A env (.Constant .none k pos) m hp Q := fun s r =>
  wpAny_Constant_none ⟨.none, hp, r, .refl _, by simp only [VR], h⟩
theorem Znl {b : Bool} {k pos} {Q : AV → Hp → Prop} (h : Q (.bool b) hp) : EV M B0 E A env (.Constant (.bool b) k pos) m hp Q := fun s r =>
  wpAny_Constant_bool ⟨.bool b, hp, r, .refl _, by simp only [VR], h⟩
theorem Rel.loc {s : Shared} (r : Rel B0 (hp.set env.locals (.ns m)) s) : ∃ mv, s.heap.Ns env.locals mv ∧ LocR s.heap m mv := (r.objs _ _ (Hp.ss ..)).2
theorem Zaa {x : PySem.Str} {pos} {v : AV} {Q : AV → Hp → Prop} (hv : m x = some v) (h : Q v hp) (hk : env.scope.kind = .function := by rfl) (hl : env.kindOf x = some .local := by rfl)
    (hd : (x == ("__debug__" : PySem.Str)) = false := by decide) : EV M B0 E A env (.Name x pos) m hp Q := fun s r => by
  refine hide fun Gq kq => ?_
  obtain ⟨mv, hn, hm⟩ := r.loc
  obtain ⟨u, hu, hvu⟩ := hm.1 x v hv
  refine kq ?_; clear kq Gq
  exact wpAny_Name (wpAny_loadName_local hk hl hn hu ⟨v, hp, r, .refl _, hvu, h⟩) hd
theorem EV.use {e : Expr} {Q : AV → Hp → Prop} (h : EV M B0 E A env e m hp Q) {s : Shared} (r : Rel B0 (hp.set env.locals (.ns m)) s) {W : Value → Shared → Prop}
    (k : ∀ v s' av hp', Rel B0 (hp'.set env.locals (.ns m)) s' → ImmLe s.heap s'.heap → VR s'.heap av v → Q av hp' → W v s') : wpAny M A (eval e env) W E s :=
  useV (h s r) fun v s' av hp' r' le hv q => k v s' av hp' r' le hv q
noncomputable def OP2 (M : Model) (B0 : Shared) (E : Value → Shared → Prop) (A : Around) (env : Env) (f : Value → Value → Sem Value) (m : Loc) (a b : AV) (hp : Hp) (Q : AV → Hp → Prop) : Prop :=
  ∀ s u v, Rel B0 (hp.set env.locals (.ns m)) s → VR s.heap a u → VR s.heap b v → wpAny M A (f u v) (fun W0 s' => ∃ av hp', Rel B0 (hp'.set env.locals (.ns m)) s' ∧ ImmLe s.heap s'.heap ∧ VR s'.heap av W0 ∧ Q av hp') E s
noncomputable abbrev Zjd (M : Model) (A : Around) (E : Value → Shared → Prop) (B0 : Shared) (env : Env) (m : Loc) (r : Expr) (op : Operator) (Q : AV → Hp → Prop) : AV → Hp → Prop := fun a hp₁ => EV M B0 E A env r m hp₁ fun b hp₂ => OP2 M B0 E A env (binaryOp op) m a b hp₂ Q
theorem Zah {l r : Expr} {op : Operator} {pos} {Q : AV → Hp → Prop}
    (h : EV M B0 E A env l m hp (Zjd M A E B0 env m r op Q)) : EV M B0 E A env (.BinOp l op r pos) m hp Q := fun s rel => by
  refine wpAny_BinOp (h.use rel fun u s₁ a hp₁ r₁ le₁ hu h₁ => h₁.use r₁ fun v s₂ b hp₂ r₂ le₂ hv h₂ => ?_)
  exact useV (h₂ s₂ u v r₂ (hu.mono le₂) hv) fun W0 s' av hp' r' le hw q => ⟨av, hp', r', (le₁.trans le₂).trans le, hw, q⟩
noncomputable abbrev Zfx (M : Model) (A : Around) (E : Value → Shared → Prop) (B0 : Shared) (env : Env) (m : Loc) (r : Expr) (op : CmpOp) (Q : AV → Hp → Prop) : AV → Hp → Prop := fun a hp₁ => EV M B0 E A env r m hp₁ fun b hp₂ => OP2 M B0 E A env (compareOp op) m a b hp₂ Q
theorem Zes {l r : Expr} {op : CmpOp} {pos} {Q : AV → Hp → Prop}
    (h : EV M B0 E A env l m hp (Zfx M A E B0 env m r op Q)) (hm : behindInMarks op r = false := by with_unfolding_all rfl) : EV M B0 E A env (.Compare l [op] [r] pos) m hp Q := fun s rel => by
  refine wpAny_Compare1 (h.use rel fun u s₁ a hp₁ r₁ le₁ hu h₁ => h₁.use r₁ fun v s₂ b hp₂ r₂ le₂ hv h₂ => ?_) hm
  exact useV (h₂ s₂ u v r₂ (hu.mono le₂) hv) fun W0 s' av hp' r' le hw q => ⟨av, hp', r', (le₁.trans le₂).trans le, hw, q⟩
noncomputable def TRU (M : Model) (B0 : Shared) (E : Value → Shared → Prop) (A : Around) (env : Env) (m : Loc) (a : AV) (hp : Hp) (Q : Bool → Hp → Prop) : Prop :=
  ∀ s u, Rel B0 (hp.set env.locals (.ns m)) s → VR s.heap a u → wpAny M A (truthy u) (fun b s' => ∃ hp', Rel B0 (hp'.set env.locals (.ns m)) s' ∧ ImmLe s.heap s'.heap ∧ Q b hp') E s
noncomputable abbrev Zex (M : Model) (A : Around) (E : Value → Shared → Prop) (B0 : Shared) (env : Env) (m : Loc) (r : Expr) (op : CmpOp) (Q : Bool → Hp → Prop) : AV → Hp → Prop := fun a hp₁ => EV M B0 E A env r m hp₁ fun b hp₂ => OP2 M B0 E A env (compareOp op) m a b hp₂ fun c hp₃ => TRU M B0 E A env m c hp₃ Q
theorem Zad {l r : Expr} {op : CmpOp} {pos} {Q : Bool → Hp → Prop}
    (h : EV M B0 E A env l m hp (Zex M A E B0 env m r op Q)) (hm : behindInMarks op r = false := by with_unfolding_all rfl) :
    TST M B0 E A env (.Compare l [op] [r] pos) m hp Q := fun s rel => by
  refine wpAny_isTrue_Compare1 (h.use rel fun u s₁ a hp₁ r₁ le₁ hu h₁ => h₁.use r₁ fun v s₂ b hp₂ r₂ le₂ hv h₂ => ?_) hm
  refine useV (h₂ s₂ u v r₂ (hu.mono le₂) hv) fun W0 s' av hp' r' le hw q => ?_
  exact useT (q s' W0 r' hw) fun b s'' hp'' r'' le' q => ⟨hp'', r'', ((le₁.trans le₂).trans le).trans le', q⟩
theorem Zaf {b : Bool} {Q : Bool → Hp → Prop} (h : Q b hp) : TRU M B0 E A env m (.bool b) hp Q := fun s u r hu => by
  simp only [VR] at hu; subst hu
  exact wpAny_truthy_bool ⟨hp, r, .refl _, h⟩
theorem Za4 {test : Expr} {body orelse : List Stmt} {pos} {Q : AF → Loc → Hp → Prop}
    (h : TST M B0 E A env test m hp fun b hp' => if b then EXs M B0 E A env body m hp' Q else EXs M B0 E A env orelse m hp' Q) : EX M B0 E A env (.If test body orelse pos) m hp Q := fun s r => by
  refine wpAny_If (useT (h s r) fun b s' hp' r' le q => ?_)
  cases b
  · exact useX (q s' r') fun f s'' af m'' hp'' r'' le' hf q => ⟨af, m'', hp'', r'', le.trans le', hf, q⟩
  · exact useX (q s' r') fun f s'' af m'' hp'' r'' le' hf q => ⟨af, m'', hp'', r'', le.trans le', hf, q⟩
noncomputable def upd (m : Loc) (x : PySem.Str) (v : AV) : Loc := fun y => if y = x then some v else m y
theorem LocR.upd {h : Heap} {mv : PySem.Str → Option Value} (x : LocR h m mv) {y : PySem.Str} {v : AV} {u : Value} (hv : VR h v u) : LocR h (Mine.upd m y v) (fun z => if z = y then some u else mv z) := ⟨fun z W0 e => by
  by_cases hz : z = y
  · simp only [Mine.upd, hz, if_true, Option.some.injEq] at e ⊢; subst e; exact ⟨u, rfl, hv⟩
  · simp only [Mine.upd, hz, if_false] at e ⊢; exact x.1 z W0 e, fun z e => by
  by_cases hz : z = y
  · simp [Mine.upd, hz] at e
  · simp only [Mine.upd, hz, if_false] at e ⊢; exact x.2 z e⟩
theorem Zb1 {x : PySem.Str} {v : AV} {u : Value} {s : Shared} {W : Unit → Shared → Prop} (r : Rel B0 (hp.set env.locals (.ns m)) s) (hv : VR s.heap v u)
    (k : ∀ s', Rel B0 (hp.set env.locals (.ns (upd m x v))) s' → ImmLe s.heap s'.heap → W () s') (hl : env.kindOf x = some .local := by rfl)
    (hp' : (env.scope.kind == .class || (env.scope.kind == .module && env.locals != env.globals)) = false := by rfl) : wpAny M A (storeName env x u) W E s := by
  obtain ⟨mv, hn, hm⟩ := r.loc
  refine wpAny_storeName_local hl hn (fun h' hn' hs => ?_) hp'
  have t := r.turn (Hp.ss ..) hs (.ns (upd m x v)) (fun le => ⟨_, hn', LocR.upd (hm.mono le) (hv.mono le)⟩) (s.toks + 1)
  rw [Hp.set_set] at t
  exact k _ t.1 t.2
theorem Zao {x : PySem.Str} {value : Expr} {pos pos'} {Q : AF → Loc → Hp → Prop} (h : EV M B0 E A env value m hp fun v hp' => Q .next (upd m x v) hp')
    (hl : env.kindOf x = some .local := by rfl) (hs : swapsWith value (some (.Name x pos')) pos.line env = pure false := by rfl)
    (hk : (env.scope.kind == .class || (env.scope.kind == .module && env.locals != env.globals)) = false := by rfl) : EX M B0 E A env (.Assign [.Name x pos'] value pos) m hp Q := fun s r =>
  wpAny_Assign_Name (h.use r fun u s₁ v hp₁ r₁ le₁ hu q => Zb1 r₁ hu (fun s' r' le => ⟨.next, _, hp₁, r', le₁.trans le, rfl, q⟩) hl hk) hs
theorem Zd0 {x : PySem.Str} {op : Operator} {value : Expr} {pos pos'} {v : AV} {Q : AF → Loc → Hp → Prop} (hv : m x = some v)
    (h : EV M B0 E A env value m hp fun W0 hp' => OP2 M B0 E A env (inplaceOp op) m v W0 hp' fun r hp'' => Q .next (upd m x r) hp'')
    (hl : env.kindOf x = some .local := by rfl) (hf : env.scope.kind = .function := by rfl)
    (hk : (env.scope.kind == .class || (env.scope.kind == .module && env.locals != env.globals)) = false := by rfl) : EX M B0 E A env (.AugAssign (.Name x pos') op value pos) m hp Q := fun s r => by
  refine hide fun Gq kq => ?_
  obtain ⟨mv, hn, hm⟩ := r.loc
  obtain ⟨u, hu, hvu⟩ := hm.1 x v hv
  refine kq ?_; clear kq Gq
  refine wpAny_AugAssign_Name (wpAny_loadName_local hf hl hn hu (h.use r fun W0 s₁ b hp₁ r₁ le₁ hw h₁ => ?_))
  refine useV (h₁ s₁ u W0 r₁ (hvu.mono le₁) hw) fun z s₂ av hp₂ r₂ le₂ hz q => ?_
  exact Zb1 r₂ hz (fun s' r' le => ⟨.next, _, hp₂, r', (le₁.trans le₂).trans le, rfl, q⟩) hl hk
noncomputable abbrev Zhh (m : Loc) (Q : AF → Loc → Hp → Prop) : AV → Hp → Prop := fun v hp' => Q (.ret v) m hp'
theorem Za6 {e : Expr} {pos} {Q : AF → Loc → Hp → Prop} (h : EV M B0 E A env e m hp (Zhh m Q)) : EX M B0 E A env (.Return (some e) pos) m hp Q := fun s r =>
  wpAny_Return_some (h.use r fun u s₁ v hp₁ r₁ le₁ hu q => ⟨.ret v, m, hp₁, r₁, le₁, ⟨u, rfl, hu⟩, q⟩)
theorem Zni {pos} {Q : AF → Loc → Hp → Prop} (h : Q .brk m hp) : EX M B0 E A env (.Break pos) m hp Q := fun s r => wpAny_Break ⟨.brk, m, hp, r, .refl _, rfl, h⟩
theorem Zhn {pos} {Q : AF → Loc → Hp → Prop} (h : Q .cont m hp) : EX M B0 E A env (.Continue pos) m hp Q := fun s r => wpAny_Continue ⟨.cont, m, hp, r, .refl _, rfl, h⟩
end
section
variable {A : Around} {E : Value → Shared → Prop} {env : Env} {m : Loc} {hp : Hp}
theorem VR_int {h : Heap} {i : Int} {t : Tok} : VR h (.int i) (.int i t) := by simp only [VR]; exact ⟨t, rfl⟩
theorem VR_bool {h : Heap} {b : Bool} : VR h (.bool b) (.bool b) := by simp only [VR]
theorem Zn0 {h : Heap} {x : PySem.Str} {t : Tok} : VR h (.str x) (.str x t) := by simp only [VR]; exact ⟨t, rfl⟩
theorem VR_none {h : Heap} : VR h .none .none := by simp only [VR]
theorem VR_ref {h : Heap} {a : Addr} : VR h (.ref a) (.ref a) := by simp only [VR]
theorem Zat {a b : Int} {Q : AV → Hp → Prop} (h : Q (.int (a + b)) hp) : OP2 (model PW W0) B0 E A env (binaryOp .Add) m (.int a) (.int b) hp Q := fun s u v r hu hv => by
  simp only [VR] at hu hv; obtain ⟨t, rfl⟩ := hu; obtain ⟨t', rfl⟩ := hv
  exact PyProof.Rows.add_int ⟨_, hp, r.toks _, .refl _, VR_int, h⟩
theorem Zb2 {a b : Int} {Q : AV → Hp → Prop} (h : Q (.int (a - b)) hp) : OP2 (model PW W0) B0 E A env (binaryOp .Sub) m (.int a) (.int b) hp Q := fun s u v r hu hv => by
  simp only [VR] at hu hv; obtain ⟨t, rfl⟩ := hu; obtain ⟨t', rfl⟩ := hv
  exact PyProof.Rows.sub_int ⟨_, hp, r.toks _, .refl _, VR_int, h⟩
theorem Zgo {a b : Int} {Q : AV → Hp → Prop} (hb : b ≠ 0) (h : Q (.int (a.fmod b)) hp) : OP2 (model PW W0) B0 E A env (binaryOp .Mod) m (.int a) (.int b) hp Q := fun s u v r hu hv => by
  simp only [VR] at hu hv; obtain ⟨t, rfl⟩ := hu; obtain ⟨t', rfl⟩ := hv
  exact PyProof.Rows.mod_int hb ⟨_, hp, r.toks _, .refl _, VR_int, h⟩
theorem Zlc {a b : Int} {Q : AV → Hp → Prop} (h : Q (.int (a + b)) hp) : OP2 (model PW W0) B0 E A env (inplaceOp .Add) m (.int a) (.int b) hp Q := fun s u v r hu hv => by
  simp only [VR] at hu hv; obtain ⟨t, rfl⟩ := hu; obtain ⟨t', rfl⟩ := hv
  exact PyProof.Rows.iadd_int ⟨_, hp, r.toks _, .refl _, VR_int, h⟩
theorem Zcu {a b : Int} {Q : AV → Hp → Prop} (h : Q (.bool (decide (a < b))) hp) : OP2 (model PW W0) B0 E A env (compareOp .Lt) m (.int a) (.int b) hp Q := fun s u v r hu hv => by
  simp only [VR] at hu hv; obtain ⟨t, rfl⟩ := hu; obtain ⟨t', rfl⟩ := hv
  exact PyProof.Rows.lt_int ⟨_, hp, r, .refl _, VR_bool, h⟩
theorem Zi4 {a b : Int} {Q : AV → Hp → Prop} (h : Q (.bool (decide (b < a))) hp) : OP2 (model PW W0) B0 E A env (compareOp .Gt) m (.int a) (.int b) hp Q := fun s u v r hu hv => by
  simp only [VR] at hu hv; obtain ⟨t, rfl⟩ := hu; obtain ⟨t', rfl⟩ := hv
  exact PyProof.Rows.gt_int ⟨_, hp, r, .refl _, VR_bool, h⟩
theorem Znc {a b : Int} {Q : AV → Hp → Prop} (h : Q (.bool (decide (a ≥ b))) hp) : OP2 (model PW W0) B0 E A env (compareOp .GtE) m (.int a) (.int b) hp Q := fun s u v r hu hv => by
  simp only [VR] at hu hv; obtain ⟨t, rfl⟩ := hu; obtain ⟨t', rfl⟩ := hv
  exact PyProof.Rows.ge_int ⟨_, hp, r, .refl _, VR_bool, h⟩
theorem Zco {a b : Int} {Q : AV → Hp → Prop} (h : Q (.bool (a == b)) hp) : OP2 (model PW W0) B0 E A env (compareOp .Eq) m (.int a) (.int b) hp Q := fun s u v r hu hv => by
  simp only [VR] at hu hv; obtain ⟨t, rfl⟩ := hu; obtain ⟨t', rfl⟩ := hv
  exact PyProof.Rows.eq_int ⟨_, hp, r, .refl _, VR_bool, h⟩
theorem Zr9 {a b : Int} {Q : AV → Hp → Prop} (h : Q (.bool (a != b)) hp) : OP2 (model PW W0) B0 E A env (compareOp .NotEq) m (.int a) (.int b) hp Q := fun s u v r hu hv => by
  simp only [VR] at hu hv; obtain ⟨t, rfl⟩ := hu; obtain ⟨t', rfl⟩ := hv
  exact PyProof.Rows.ne_int ⟨_, hp, r, .refl _, VR_bool, h⟩
theorem Zld {a b : PySem.Str} {Q : AV → Hp → Prop} (h : Q (.bool (a == b)) hp) : OP2 (model PW W0) B0 E A env (compareOp .Eq) m (.str a) (.str b) hp Q := fun s u v r hu hv => by
  simp only [VR] at hu hv; obtain ⟨t, rfl⟩ := hu; obtain ⟨t', rfl⟩ := hv
  exact PyProof.Rows.eq_str ⟨_, hp, r, .refl _, VR_bool, h⟩
theorem Zlb {a b : PySem.Str} {Q : AV → Hp → Prop} (h : Q (.bool (a != b)) hp) : OP2 (model PW W0) B0 E A env (compareOp .NotEq) m (.str a) (.str b) hp Q := fun s u v r hu hv => by
  simp only [VR] at hu hv; obtain ⟨t, rfl⟩ := hu; obtain ⟨t', rfl⟩ := hv
  exact PyProof.Rows.ne_str ⟨_, hp, r, .refl _, VR_bool, h⟩
noncomputable def AV.isNone : AV → Bool
  | .none => true
  | _ => false
theorem VR.isNone {h : Heap} : ∀ {a : AV} {u : Value}, VR h a u → (u == Value.none) = a.isNone
  | .none, _, e => by simp only [VR] at e; subst e; rfl
  | .bool _, _, e => by simp only [VR] at e; subst e; rfl
  | .int _, _, e => by simp only [VR] at e; obtain ⟨_, rfl⟩ := e; rfl
  | .str _, _, e => by simp only [VR] at e; obtain ⟨_, rfl⟩ := e; rfl
  | .flt _, _, e => by simp only [VR] at e; obtain ⟨_, rfl⟩ := e; rfl
  | .ref _, _, e => by simp only [VR] at e; subst e; rfl
  | .ty _, _, e => by simp only [VR] at e; subst e; rfl
  | .bi _, _, e => by simp only [VR] at e; subst e; rfl
  | .tup _, _, e => by simp only [VR] at e; obtain ⟨_, _, rfl, _⟩ := e; rfl
  | .mat _, _, e => by simp only [VR] at e; obtain ⟨_, _, rfl, _⟩ := e; rfl
theorem Zdn {a : AV} {Q : AV → Hp → Prop} (h : Q (.bool a.isNone) hp) : OP2 (model PW W0) B0 E A env (compareOp .Is) m a .none hp Q := fun s u v r hu hv => by
  simp only [VR] at hv; subst hv
  exact is_none ⟨_, hp, r, .refl _, by rw [hu.isNone]; exact VR_bool, h⟩
theorem Zdz {a : AV} {Q : AV → Hp → Prop} (h : Q (.bool (!a.isNone)) hp) : OP2 (model PW W0) B0 E A env (compareOp .IsNot) m a .none hp Q := fun s u v r hu hv => by
  simp only [VR] at hv; subst hv
  exact isNot_none ⟨_, hp, r, .refl _, by rw [hu.isNone]; exact VR_bool, h⟩
noncomputable abbrev Zhg (PW : Program) (W0 : World) (A : Around) (E : Value → Shared → Prop) (B0 : Shared) (env : Env) (m : Loc) (Q : Bool → Hp → Prop) : AV → Hp → Prop := fun v hp' => TRU (model PW W0) B0 E A env m v hp' Q
theorem Za9 {e : Expr} {Q : Bool → Hp → Prop} (h : EV (model PW W0) B0 E A env e m hp (Zhg PW W0 A E B0 env m Q))
    (he : isTrue e env (eval e env) = (do let v ← eval e env; standAt e.pos; holding [v] (truthy v)) := by rfl) : TST (model PW W0) B0 E A env e m hp Q := fun s r => by
  refine wpAny_isTrue_value (h.use r fun u s₁ v hp₁ r₁ le₁ hu q => ?_) he
  exact useT (q s₁ u r₁ hu) fun b s'' hp'' r'' le' q => mkT r'' (le₁.trans le') q
theorem Zk8 {x : Expr} {pos} {Q : Bool → Hp → Prop} (h : TST (model PW W0) B0 E A env x m hp (fun b hp' => Q (!b) hp')) : TST (model PW W0) B0 E A env (.UnaryOp .Not x pos) m hp Q := fun s r =>
  wpAny_isTrue_Not (h s r)
noncomputable def ALLT (M : Model) (B0 : Shared) (E : Value → Shared → Prop) (A : Around) (env : Env) (op : BoolOp) (es : List Expr) (m : Loc) (hp : Hp) (Q : Bool → Hp → Prop) : Prop :=
  ∀ s, Rel B0 (hp.set env.locals (.ns m)) s → wpAny M A (allTrue op es env) (fun b s' => ∃ hp', Rel B0 (hp'.set env.locals (.ns m)) s' ∧ ImmLe s.heap s'.heap ∧ Q b hp') E s
theorem Zaz {op : BoolOp} {es : List Expr} {pos} {Q : Bool → Hp → Prop} (h : ALLT (model PW W0) B0 E A env op es m hp Q) : TST (model PW W0) B0 E A env (.BoolOp op es pos) m hp Q := fun s r => wpAny_isTrue_BoolOp (h s r)
theorem Za2 {Q : Bool → Hp → Prop} (h : Q true hp) : ALLT (model PW W0) B0 E A env .And [] m hp Q := fun s r => wpAny_allTrue_And_nil ⟨hp, r, .refl _, h⟩
theorem Zev {Q : Bool → Hp → Prop} (h : Q false hp) : ALLT (model PW W0) B0 E A env .Or [] m hp Q := fun s r => wpAny_allTrue_Or_nil ⟨hp, r, .refl _, h⟩
theorem Zai {x : Expr} {rest : List Expr} {Q : Bool → Hp → Prop} (h : TST (model PW W0) B0 E A env x m hp fun b hp' => if b then ALLT (model PW W0) B0 E A env .And rest m hp' Q else Q false hp') :
    ALLT (model PW W0) B0 E A env .And (x :: rest) m hp Q := fun s r => by
  refine wpAny_allTrue_And_cons (useT (h s r) fun b s' hp' r' le q => ?_)
  cases b
  · exact mkT r' le q
  · exact useT (q s' r') fun b s'' hp'' r'' le' q => mkT r'' (le.trans le') q
theorem Zcc {x : Expr} {rest : List Expr} {Q : Bool → Hp → Prop} (h : TST (model PW W0) B0 E A env x m hp fun b hp' => if b then Q true hp' else ALLT (model PW W0) B0 E A env .Or rest m hp' Q) :
    ALLT (model PW W0) B0 E A env .Or (x :: rest) m hp Q := fun s r => by
  refine wpAny_allTrue_Or_cons (useT (h s r) fun b s' hp' r' le q => ?_)
  cases b
  · exact useT (q s' r') fun b s'' hp'' r'' le' q => mkT r'' (le.trans le') q
  · exact mkT r' le q
theorem Zfv {a : Int} {Q : Bool → Hp → Prop} (h : Q (a != 0) hp) : TRU (model PW W0) B0 E A env m (.int a) hp Q := fun s u r hu => by
  simp only [VR] at hu; obtain ⟨t, rfl⟩ := hu
  exact PySem.P.truthy_int ⟨hp, r, .refl _, h⟩
theorem Rel.at {s : Shared} (r : Rel B0 (hp.set env.locals (.ns m)) s) {a : Addr} {o : AO} (ha : hp a = some o) (hL : a ≠ env.locals) : OR s.heap a o := (r.objs a o (Hp.snt hL ha)).2
theorem Zm9 {a : Addr} {xs : List AV} {Q : Bool → Hp → Prop} (ha : hp a = some (.list xs)) (hL : a ≠ env.locals) (hsz : xs.length ≤ sizeLine) (h : Q (!xs.isEmpty) hp) : TRU (model PW W0) B0 E A env m (.ref a) hp Q := fun s u r hu => by
  simp only [VR] at hu; subst hu
  obtain ⟨vs, n, hl, hv⟩ := r.at ha hL
  have hlen := hv.length
  refine wpAny_truthy_list hl.isList (by have : vs.size ≤ sizeLine := by rw [← Array.length_toList]; lia
                                         have := sizeLine_eq; lia) ⟨hp, r.toks _, .refl _, ?_⟩
  have : vs.isEmpty = xs.isEmpty := by
    rw [← Array.isEmpty_toList]
    cases hx : xs with
    | nil => rw [hx] at hlen; simp at hlen; rw [List.isEmpty_iff.mpr]; rfl; exact List.length_eq_zero_iff.mp (by simpa using hlen)
    | cons y ys => rw [hx] at hlen; cases hv' : vs.toList with
      | nil => rw [hv'] at hlen; simp at hlen
      | cons z zs => rfl
  rw [this]; exact h
end
section
variable {A : Around} {E : Value → Shared → Prop} {env : Env} {m : Loc} {hp : Hp}
noncomputable def EVS (M : Model) (B0 : Shared) (E : Value → Shared → Prop) (A : Around) (env : Env) (es : List Expr) (m : Loc) (hp : Hp) (Q : List AV → Hp → Prop) : Prop :=
  ∀ (pos : Pos) s, Rel B0 (hp.set env.locals (.ns m)) s → wpAny M A (spliced (backTo pos (starEach es env))) (fun vs s' => ∃ avs hp', Rel B0 (hp'.set env.locals (.ns m)) s' ∧ ImmLe s.heap s'.heap ∧ VRs s'.heap avs vs ∧ Q avs hp') E s
theorem Zae {Q : List AV → Hp → Prop} (h : Q [] hp) : EVS (model PW W0) B0 E A env [] m hp Q := fun _ s r => wpAny_items_nil ⟨[], hp, r, .refl _, by simp only [VRs], h⟩
noncomputable abbrev Zje (PW : Program) (W0 : World) (A : Around) (E : Value → Shared → Prop) (B0 : Shared) (env : Env) (m : Loc) (rest : List Expr) (Q : List AV → Hp → Prop) : AV → Hp → Prop := fun v hp' => EVS (model PW W0) B0 E A env rest m hp' fun vs hp'' => Q (v :: vs) hp''
theorem Zab {e : Expr} {rest : List Expr} {Q : List AV → Hp → Prop} (h : EV (model PW W0) B0 E A env e m hp (Zje PW W0 A E B0 env m rest Q))
    (he : starEach (e :: rest) env = (false, eval e env) :: starEach rest env := by rfl) : EVS (model PW W0) B0 E A env (e :: rest) m hp Q := fun pos s r => by
  refine wpAny_items_cons (h.use r fun u s₁ v hp₁ r₁ le₁ hu q => ?_) he
  refine Zc3 (q pos s₁ r₁) fun vs s₂ avs hp₂ r₂ le₂ hv q => ?_
  exact ⟨v :: avs, hp₂, r₂, le₁.trans le₂, by simp only [VRs]; exact ⟨u, vs, rfl, hu.mono le₂, hv⟩, q⟩
theorem Rel.newAt {s : Shared} (r : Rel B0 (hp.set env.locals (.ns m)) s) (ob : Obj) (o : AO) (ho : OR (s.heap.push ob) s.heap.objs.size o) :
    Rel B0 ((hp.set s.heap.objs.size o).set env.locals (.ns m)) { s with heap := s.heap.push ob } ∧ hp s.heap.objs.size = none ∧ s.heap.objs.size ≠ env.locals ∧ ImmLe s.heap (s.heap.push ob) := by
  have f := r.fresh
  have hne : s.heap.objs.size ≠ env.locals := fun e => by rw [e, Hp.ss] at f; cases f
  refine ⟨?_, Hp.snr hne f, hne, ImmLe.keep fun b o'' e => Heap.get?_push_of_some _ e⟩
  have := r.alloc ob o ho
  rw [Hp.sc _ _ _ (Ne.symm hne)] at this
  exact this
noncomputable abbrev Zi7 (Q : AV → Hp → Prop) : List AV → Hp → Prop := fun vs hp' => vs.length ≤ sizeLine ∧ Q (.tup vs) hp'
theorem Zap {es : List Expr} {k pos} {Q : AV → Hp → Prop} (h : EVS (model PW W0) B0 E A env es m hp (Zi7 Q)) : EV (model PW W0) B0 E A env (.Tuple es k pos) m hp Q := fun s r => by
  refine wpAny_Tuple (Zc3 (h pos s r) fun vs s₁ avs hp₁ r₁ le₁ hv yq => ?_)
  obtain ⟨hlen, q⟩ := yq
  refine ⟨by rw [hv.length]; exact hlen, ?_⟩
  have le : ImmLe s₁.heap (s₁.heap.push { cls := .type "tuple", data := .seq vs.toArray }) := ImmLe.keep fun b o'' e => Heap.get?_push_of_some _ e
  exact mkV (av := .tup avs) (r₁.push _) (le₁.trans le) (by simp only [VR]; exact ⟨_, vs.toArray, rfl, ⟨_, Heap.get?_push_size _ rfl, rfl, _, rfl⟩, by simpa using hv.mono le⟩) q
noncomputable abbrev Zll (env : Env) (Q : AV → Hp → Prop) : List AV → Hp → Prop := fun vs hp' => vs.length ≤ sizeLine ∧ ∀ a, hp' a = none → a ≠ env.locals → Q (.ref a) (hp'.set a (.list vs))
theorem Zbq {es : List Expr} {pos} {Q : AV → Hp → Prop} (h : EVS (model PW W0) B0 E A env es m hp (Zll env Q)) :
    EV (model PW W0) B0 E A env (.List es pos) m hp Q := fun s r => by
  refine wpAny_List (Zc3 (h pos s r) fun vs s₁ avs hp₁ r₁ le₁ hv yq => ?_)
  obtain ⟨hlen, q⟩ := yq
  refine ⟨by rw [hv.length]; exact hlen, ?_⟩
  have n := r₁.newAt { cls := .type "list", data := .seq vs.toArray } (.list avs) ⟨vs.toArray, 0, IsL.new _ _, by
    have le : ImmLe s₁.heap (s₁.heap.push { cls := .type "list", data := .seq vs.toArray }) := ImmLe.keep fun b o'' e => Heap.get?_push_of_some _ e
    simpa using hv.mono le⟩
  exact mkV (av := .ref _) n.1 (le₁.trans n.2.2.2) VR_ref (q _ n.2.1 n.2.2.1)
noncomputable def SUB (M : Model) (B0 : Shared) (E : Value → Shared → Prop) (A : Around) (env : Env) (value slice : Expr) (m : Loc) (o i : AV) (hp : Hp) (Q : AV → Hp → Prop) : Prop :=
  ∀ s u v, Rel B0 (hp.set env.locals (.ns m)) s → VR s.heap o u → VR s.heap i v → wpAny M A (subscriptTail value slice u v) (fun W0 s' => ∃ av hp', Rel B0 (hp'.set env.locals (.ns m)) s' ∧ ImmLe s.heap s'.heap ∧ VR s'.heap av W0 ∧ Q av hp') E s
noncomputable abbrev Zey (PW : Program) (W0 : World) (A : Around) (E : Value → Shared → Prop) (B0 : Shared) (env : Env) (m : Loc) (value : Expr) (slice : Expr) (Q : AV → Hp → Prop) : AV → Hp → Prop := fun o hp₁ => EV (model PW W0) B0 E A env slice m hp₁ fun i hp₂ => SUB (model PW W0) B0 E A env value slice m o i hp₂ Q
theorem Zam {value slice : Expr} {pos} {Q : AV → Hp → Prop}
    (h : EV (model PW W0) B0 E A env value m hp (Zey PW W0 A E B0 env m value slice Q)) : EV (model PW W0) B0 E A env (.Subscript value slice pos) m hp Q := fun s rel => by
  refine Subscript_ (h.use rel fun u s₁ a hp₁ r₁ le₁ hu h₁ => h₁.use r₁ fun v s₂ b hp₂ r₂ le₂ hv h₂ => ?_)
  exact useV (h₂ s₂ u v r₂ (hu.mono le₂) hv) fun W0 s' av hp' r' le hw q => mkV r' ((le₁.trans le₂).trans le) hw q
theorem Zk9 {value slice : Expr} {xs : List AV} {k : Int} {j : Nat} {x : AV} {Q : AV → Hp → Prop} (hlo : -(2 ^ 63) ≤ k) (hhi : k < 2 ^ 63) (hj : seqIndex? k xs.length = some j) (hx : xs[j]? = some x) (h : Q x hp)
    (hs : ∀ t u, subscripted slice false (.ref t) (.int k u) = operate [.ref t, .int k u] (getItem (.ref t) (.int k u)) := by intro _ _; with_unfolding_all rfl) :
    SUB (model PW W0) B0 E A env value slice m (.tup xs) (.int k) hp Q := fun s u v r hu hv => by
  refine hide fun Gq kq => ?_
  simp only [VR] at hu hv; obtain ⟨t, rfl⟩ := hv; obtain ⟨a, vs, rfl, ht, hvs⟩ := hu
  obtain ⟨y, hy, hxy⟩ := hvs.get hx
  refine kq ?_; clear kq Gq
  exact item_tupleT (l := vs.toList) (by simpa using ht) hlo hhi (by rw [hvs.length]; exact hj) hy ⟨x, hp, r, .refl _, hxy, h⟩ (hs _ _)
noncomputable def Lst (B0 : Shared) (hp : Hp) (L a : Addr) (xs : List AV) : Prop := (hp a = some (.list xs) ∧ a ≠ L) ∨ ∃ vs, B0.heap.IsList a vs ∧ VRs B0.heap xs vs.toList
theorem Lst.own {hp : Hp} {L a : Addr} {xs : List AV} (h : hp a = some (.list xs)) (hL : a ≠ L) : Lst B0 hp L a xs := .inl ⟨h, hL⟩
theorem Rel.lst {s : Shared} (r : Rel B0 (hp.set env.locals (.ns m)) s) {a : Addr} {xs : List AV} (h : Lst B0 hp env.locals a xs) : ∃ vs, s.heap.IsList a vs ∧ VRs s.heap xs vs.toList := by
  rcases h with ⟨ha, hL⟩ | ⟨vs, hl, hv⟩
  · obtain ⟨vs, n, hl, hv⟩ := r.at ha hL
    exact ⟨vs, hl.isList, hv⟩
  · obtain ⟨o, ho, rest⟩ := hl
    exact ⟨vs, ⟨o, r.keep _ _ ho, rest⟩, hv.mono (ImmLe.keep r.keep)⟩
theorem Zaw {value slice : Expr} {a : Addr} {xs : List AV} {k : Int} {x : AV} {Q : AV → Hp → Prop} (hl : Lst B0 hp env.locals a xs) (h0 : 0 ≤ k) (hhi : k < 2 ^ 63) (hx : xs[k.toNat]? = some x) (h : Q x hp)
    (hs : ∀ u, subscripted slice false (.ref a) (.int k u) = operate [.ref a, .int k u] (getItem (.ref a) (.int k u)) := by intro _; with_unfolding_all rfl) :
    SUB (model PW W0) B0 E A env value slice m (.ref a) (.int k) hp Q := fun s u v r hu hv => by
  simp only [VR] at hu hv; obtain ⟨t, rfl⟩ := hv; subst hu
  obtain ⟨vs, hl, hvs⟩ := r.lst hl
  obtain ⟨y, hy, hxy⟩ := hvs.get hx
  exact tail_any hl.typeIs slot_list_getitem.lookup (wpAny_getItem_list hl h0 hhi (by simpa using hy) ⟨x, hp, r, .refl _, hxy, h⟩) (hs _)
theorem Zhe {value slice : Expr} {a : Addr} {xs : List AV} {k : Int} {x : AV} {Q : AV → Hp → Prop} (hl : Lst B0 hp env.locals a xs) (h0 : k < 0) (hlo : -(2 ^ 63) ≤ k) (h1 : -(xs.length : Int) ≤ k) (hx : xs[(k + xs.length).toNat]? = some x) (h : Q x hp)
    (hs : ∀ u, subscripted slice false (.ref a) (.int k u) = operate [.ref a, .int k u] (getItem (.ref a) (.int k u)) := by intro _; with_unfolding_all rfl) :
    SUB (model PW W0) B0 E A env value slice m (.ref a) (.int k) hp Q := fun s u v r hu hv => by
  refine hide fun Gq kq => ?_
  simp only [VR] at hu hv; obtain ⟨t, rfl⟩ := hv; subst hu
  obtain ⟨vs, hl, hvs⟩ := r.lst hl
  obtain ⟨y, hy, hxy⟩ := hvs.get hx
  refine kq ?_; clear kq Gq
  have hlen := hvs.length
  have hsz : (vs.size : Int) = xs.length := by rw [← Array.length_toList, hlen]
  refine tail_any hl.typeIs slot_list_getitem.lookup (wpAny_getItem_list_neg hl h0 ?_ hlo ?_ ⟨x, hp, r, .refl _, hxy, h⟩) (hs _)
  · rw [hsz]; exact h1
  · rw [hsz]; simpa using hy
noncomputable def optE (M : Model) (B0 : Shared) (E : Value → Shared → Prop) (A : Around) (env : Env) (e : Option Expr) (m : Loc) (hp : Hp) (Q : AV → Hp → Prop) : Prop := match e with | some e => EV M B0 E A env e m hp Q | none => Q .none hp
theorem optE.use {e : Option Expr} {Q : AV → Hp → Prop} (h : optE (model PW W0) B0 E A env e m hp Q) {s : Shared} (r : Rel B0 (hp.set env.locals (.ns m)) s) {W : Value → Shared → Prop}
    (k : ∀ v s' av hp', Rel B0 (hp'.set env.locals (.ns m)) s' → ImmLe s.heap s'.heap → VR s'.heap av v → Q av hp' → W v s') : wpAny (model PW W0) A (evalPart e env) W E s := by
  cases e with
  | none => exact wpAny_pure (k _ _ .none hp r (.refl _) VR_none h)
  | some e => exact EV.use h r k
noncomputable def Zf4 : AV → Option (Option Int)
  | .none => some none
  | .int i => some (some i)
  | _ => none
theorem VR.part {h : Heap} {a : AV} {v : Value} {k : Option Int} (hv : VR h a v) (e : Zf4 a = some k) : IsPart v k := by
  cases a with
  | none => cases (show some none = some k from e); simp only [VR] at hv; subst hv; exact .none
  | int i => cases (show some (some i) = some k from e); simp only [VR] at hv; obtain ⟨t, rfl⟩ := hv; exact .int ..
  | _ => cases (show (none : Option (Option Int)) = some k from e)
noncomputable def pick {α : Type} (xs : List α) (lo hi : Option Int) : List α := (xs.drop (lo.elim 0 (clipAt xs.length))).take (hi.elim xs.length (clipAt xs.length) - lo.elim 0 (clipAt xs.length))
end
open PySem PySem.W PyProof.Rows PySem.Calls
structure Gnd (K : Frag) (B0 : Shared) : Prop where
  X : K.In B0.heap
  top : ∃ mg mb, B0.heap.Ns mainGlobals mg ∧ B0.heap.Ns builtinsNs mb ∧ ∀ x : PySem.Str, x ≠ "__name__" → mb x = bootBuiltins x
  lim : B0.heap.NoLimit
section
variable {A : Around} {E : Value → Shared → Prop} {env : Env} {m : Loc} {hp : Hp} {K : Frag}
theorem Zeq (G : Gnd K B0) {x : PySem.Str} {pos} {v : Value} {av : AV} {Q : AV → Hp → Prop} (e : nsIn K mainGlobals x = some (some v)) (hv : ∀ h, VR h av v) (h : Q av hp)
    (hk : env.scope.kind = .function := by rfl) (hx : env.kindOf x = some .globalImplicit := by rfl) (hg : env.globals = mainGlobals := by rfl) (hd : (x == ("__debug__" : PySem.Str)) = false := by decide) :
    EV (model PW W0) B0 E A env (.Name x pos) m hp Q := fun s r => by
  refine hide fun Gq kq => ?_
  obtain ⟨mg, mb, g, b, bb⟩ := G.top
  refine kq ?_; clear kq Gq
  exact Name_function_global hk hx (loadGlobal_global (hg ▸ g.keeps r.keep) (mg_of G.X g e) ⟨av, hp, r, .refl _, hv _, h⟩) hd
theorem Zay (G : Gnd K B0) {x : PySem.Str} {pos} {v : Value} {av : AV} {Q : AV → Hp → Prop} (e : nsIn K mainGlobals x = some none) (hb : bootBuiltins x = some v) (hn : x ≠ "__name__") (hv : ∀ h, VR h av v) (h : Q av hp)
    (hk : env.scope.kind = .function := by rfl) (hx : env.kindOf x = some .globalImplicit := by rfl) (hg : env.globals = mainGlobals := by rfl) (hbl : env.builtins = builtinsNs := by rfl) (hd : (x == ("__debug__" : PySem.Str)) = false := by decide) :
    EV (model PW W0) B0 E A env (.Name x pos) m hp Q := fun s r => by
  refine hide fun Gq kq => ?_
  obtain ⟨mg, mb, g, b, bb⟩ := G.top
  refine kq ?_; clear kq Gq
  exact Name_function_global hk hx (loadGlobal_builtin (hg ▸ g.keeps r.keep) (mg_none_of G.X g e) (hbl ▸ b.keeps r.keep) ((bb x hn).trans hb) ⟨av, hp, r, .refl _, hv _, h⟩) hd
theorem Zct {h : Heap} {n : String} : VR h (.bi n) (.builtin n) := by simp only [VR]
theorem Zdl {h : Heap} {n : String} : VR h (.ty n) (.type n) := by simp only [VR]
noncomputable def CL (M : Model) (B0 : Shared) (E : Value → Shared → Prop) (A : Around) (env : Env) (f : Value) (m : Loc) (avs : List AV) (hp : Hp) (Q : AV → Hp → Prop) : Prop :=
  ∀ s vs, Rel B0 (hp.set env.locals (.ns m)) s → VRs s.heap avs vs → wpAny M A (call f vs) (fun v s' => ∃ av hp', Rel B0 (hp'.set env.locals (.ns m)) s' ∧ ImmLe s.heap s'.heap ∧ VR s'.heap av v ∧ Q av hp') E s
noncomputable abbrev Zjc (PW : Program) (W0 : World) (A : Around) (E : Value → Shared → Prop) (B0 : Shared) (env : Env) (m : Loc) (e : Expr) (rest : List Expr) (id : String) (Q : AV → Hp → Prop) : AV → Hp → Prop := fun f hp₁ => f = .bi id ∧ EVS (model PW W0) B0 E A env (e :: rest) m hp₁ fun vs hp₂ => CL (model PW W0) B0 E A env (.builtin id) m vs hp₂ Q
theorem Za1 {func e : Expr} {rest : List Expr} {pos} {id : String} {Q : AV → Hp → Prop}
    (h : EV (model PW W0) B0 E A env func m hp (Zjc PW W0 A E B0 env m e rest id Q))
    (hc : eval (.Call func (e :: rest) [] pos) env = (do callWith pos (← eval func env) [] (backTo pos (starEach (e :: rest) env)) (backToKw pos (keywordEach [] env))) := by rfl)
    (he : starEach (e :: rest) env = (false, eval e env) :: starEach rest env := by rfl) (hplain : (backTo pos (starEach rest env)).any (·.1) = false := by rfl) :
    EV (model PW W0) B0 E A env (.Call func (e :: rest) [] pos) m hp Q := fun s r => by
  refine Call_ (h.use r fun u s₁ f hp₁ r₁ le₁ hu yq => ?_) hc
  obtain ⟨hf, q⟩ := yq
  subst hf; simp only [VR] at hu; subst hu
  refine callWith_builtin1 (Zc3 (q pos s₁ r₁) fun vs s₂ avs hp₂ r₂ le₂ hv q => ?_) he hplain
  exact useV (q s₂ vs r₂ hv) fun v s₃ av hp₃ r₃ le₃ hv q => mkV r₃ ((le₁.trans le₂).trans le₃) hv q
theorem Zbo {h : Heap} {a : AV} {vs : List Value} (x : VRs h [a] vs) : ∃ v, vs = [v] ∧ VR h a v := by
  simp only [VRs] at x; obtain ⟨v, r, rfl, h1, rfl⟩ := x; exact ⟨v, rfl, h1⟩
theorem Zc7 {h : Heap} {a b : AV} {vs : List Value} (x : VRs h [a, b] vs) : ∃ v u, vs = [v, u] ∧ VR h a v ∧ VR h b u := by
  simp only [VRs] at x; obtain ⟨v, r, rfl, h1, u, r', rfl, h2, rfl⟩ := x; exact ⟨v, u, rfl, h1, h2⟩
theorem Zcb {a : Addr} {xs : List AV} {Q : AV → Hp → Prop} (hl : Lst B0 hp env.locals a xs) (hsz : xs.length ≤ sizeLine) (h : Q (.int xs.length) hp) : CL (model PW W0) B0 E A env (.builtin "len") m [.ref a] hp Q := fun s vs r hv => by
  obtain ⟨v, rfl, h1⟩ := Zbo hv
  simp only [VR] at h1; subst h1
  obtain ⟨us, hl, hu⟩ := r.lst hl
  have e : us.size = xs.length := by rw [← Array.length_toList]; exact hu.length
  exact len_list hl (by rw [e]; have := sizeLine_eq; lia) ⟨_, hp, r.toks _, .refl _, by rw [e]; exact VR_int, h⟩
noncomputable abbrev Zjb (PW : Program) (W0 : World) (A : Around) (E : Value → Shared → Prop) (B0 : Shared) (env : Env) (m : Loc) (e : Expr) (rest : List Expr) (f : Addr) (Q : AV → Hp → Prop) : AV → Hp → Prop := fun v hp₁ => v = .ref f ∧ EVS (model PW W0) B0 E A env (e :: rest) m hp₁ fun vs hp₂ => CL (model PW W0) B0 E A env (.ref f) m vs hp₂ Q
theorem Zim {func e : Expr} {rest : List Expr} {pos} {f : Addr} {o : Obj} {fd : FuncData} {Q : AV → Hp → Prop} (G : Gnd K B0) (ho : K.lookup f = some o) (hd : o.data = .func fd)
    (h : EV (model PW W0) B0 E A env func m hp (Zjb PW W0 A E B0 env m e rest f Q))
    (hc : eval (.Call func (e :: rest) [] pos) env = (do callWith pos (← eval func env) [] (backTo pos (starEach (e :: rest) env)) (backToKw pos (keywordEach [] env))) := by rfl)
    (he : starEach (e :: rest) env = (false, eval e env) :: starEach rest env := by rfl) :
    EV (model PW W0) B0 E A env (.Call func (e :: rest) [] pos) m hp Q := fun s r => by
  refine Call_ (h.use r fun u s₁ v hp₁ r₁ le₁ hu yq => ?_) hc
  obtain ⟨hf, q⟩ := yq
  subst hf; simp only [VR] at hu; subst hu
  refine callWith_def hd (Zc3 (q pos s₁ r₁) fun vs s₂ avs hp₂ r₂ le₂ hv q => ?_) he
  exact ⟨r₂.keep _ _ (G.X _ _ ho), useV (q s₂ vs r₂ hv) fun v s₃ av hp₃ r₃ le₃ hv q => mkV r₃ ((le₁.trans le₂).trans le₃) hv q⟩
noncomputable def Za0 : List (PySem.Str × AV) → Loc
  | [] => fun _ => none
  | (x, v) :: r => fun y => if y = x then some v else Za0 r y
theorem Zg9 {h : Heap} : ∀ {bs : List (PySem.Str × AV)} {us : List (PySem.Str × Value)}, us.map (·.1) = bs.map (·.1) → VRs h (bs.map (·.2)) (us.map (·.2)) → LocR h (Za0 bs) (fun x => us.lookup x)
  | [], us, e, hv => by
    refine ⟨fun x v hx => by simp [Za0] at hx, fun x _ => ?_⟩
    cases us with
    | nil => rfl
    | cons _ _ => simp at e
  | (y, v) :: bs, us, e, hv => by
    cases us with
    | nil => simp at e
    | cons u us =>
      obtain ⟨z, u⟩ := u
      simp only [List.map_cons, List.cons.injEq] at e
      simp only [List.map_cons, VRs, List.cons.injEq] at hv
      obtain ⟨_, _, ⟨rfl, rfl⟩, h1, h2⟩ := hv
      obtain ⟨rfl, e2⟩ := e
      refine ⟨fun x x' hx => ?_, fun x hx => ?_⟩
      · simp only [Za0] at hx
        by_cases hz : x = z
        · subst hz
          simp only [if_true, Option.some.injEq] at hx
          subst hx
          exact ⟨u, by simp [List.lookup], h1⟩
        · simp only [hz, if_false] at hx
          obtain ⟨u', hu', hv'⟩ := (Zg9 e2 h2).1 x x' hx
          exact ⟨u', by simp only [List.lookup]; rw [beq_eq_false_iff_ne.mpr hz]; exact hu', hv'⟩
      · simp only [Za0] at hx
        by_cases hz : x = z
        · simp [hz] at hx
        · simp only [hz, if_false] at hx
          have := (Zg9 e2 h2).2 x hx
          simp only [List.lookup]; rw [beq_eq_false_iff_ne.mpr hz]; exact this
noncomputable def Zfe : AF → AV
  | .ret v => v
  | _ => .none
theorem Zhv {h : Heap} {fl : Flow} : ∀ {af : AF}, FR h af fl → VR h (Zfe af) (match fl with | .ret v => v | _ => .none)
  | .next, e => by cases e; exact VR_none
  | .brk, e => by cases e; exact VR_none
  | .cont, e => by cases e; exact VR_none
  | .ret v, ⟨u, e, hu⟩ => by subst e; exact hu
noncomputable def CD (M : Model) (B0 : Shared) (E : Value → Shared → Prop) (A : Around) (env : Env) (f : Value) (m : Loc) (avs : List AV) (hp : Hp) (Q : AV → Hp → Prop) : Prop :=
  ∀ s vs, Rel B0 (hp.set env.locals (.ns m)) s → VRs s.heap avs vs → codeAny M A (.call f ⟨vs, []⟩)
    (fun r s' => match r with | .ok (.ret v) => ∃ av hp', Rel B0 (hp'.set env.locals (.ns m)) s' ∧ ImmLe s.heap s'.heap ∧ VR s'.heap av v ∧ Q av hp' | .ok _ => False | .error e => E e s') s
theorem CD.cl {M : Model} {f : Value} {avs : List AV} {Q : AV → Hp → Prop} (h : CD M B0 E A env f m avs hp Q) : CL M B0 E A env f m avs hp Q := fun s vs r hv => wpAny_call (h s vs r hv)
theorem Zrb {f : Addr} {o : Obj} {fd : FuncData} {body : List Stmt} {avs : List AV} {bs : List (PySem.Str × AV)} {Q : AV → Hp → Prop} (G : Gnd K B0) (ho : K.lookup f = some o) (hd : o.data = .func fd) (hcd : codeIn K fd.code fd.qualname = true)
    (hbody : fd.body = .stmts body) (hroom : A.depth < recursionLimit)
    (hbind : ∀ s vs, VRs s.heap avs vs → (∀ b o, B0.heap.get? b = some o → s.heap.get? b = some o) → ∃ us : List (PySem.Str × Value), BindsTo s fd ⟨vs, []⟩ us ∧ us.reverse.map (·.1) = bs.map (·.1) ∧ VRs s.heap (bs.map (·.2)) (us.reverse.map (·.2)))
    (hloc : bs.all (fun x => fd.scope.names.lookup x.1 == some .local) = true) (hcell : ∀ x ∈ fd.scope.names, x.2 ≠ .cell)
    (h : ∀ L, hp L = none → L ≠ env.locals → EXs (model PW W0) B0 (fun _ _ => False) (A.deeper (callEnv fd L f)) (callEnv fd L f) body (Za0 bs) (hp.set env.locals (.ns m))
      (fun fl _ hp' => ∃ hp₂ : Hp, (∀ a o, (hp₂.set env.locals (.ns m)) a = some o → hp' a = some o ∧ a ≠ L) ∧ Q (Zfe fl) hp₂))
    (hco : fd.scope.isCoroutine = false := by rfl) (hgen : fd.scope.isGenerator = false := by rfl) (hk : fd.scope.kind = .function := by rfl) :
    CD (model PW W0) B0 E A env (.ref f) m avs hp Q := fun s vs r hv => by
  refine hide fun Gq kq => ?_
  obtain ⟨us, hb, e1, e2⟩ := hbind s vs hv r.keep
  refine kq ?_; clear kq Gq
  have nm : us.map (·.1) = (bs.map (·.1)).reverse := by rw [← e1, List.map_reverse, List.reverse_reverse]
  refine codeAny_call_def hroom (r.keep _ _ (G.X _ _ ho)) hd (G.lim.keeps r.keep) (codeRec_of (G.X.keeps r.keep) hcd) hbody hb hcell (fun x hx => ?_) (fun h₀ hns hk₀ => ?_) hco hgen hk
  · refine hide fun Gq kq => ?_
    have : x.1 ∈ bs.map (·.1) := by
      rw [← List.mem_reverse, ← nm]
      exact List.mem_map_of_mem hx
    obtain ⟨y, hy, e⟩ := List.mem_map.mp this
    refine kq ?_; clear kq Gq
    rw [← e]
    simpa using List.all_eq_true.mp hloc y hy
  · have hne : s.heap.objs.size ≠ env.locals := fun e => by have f := r.fresh; rw [e, Hp.ss] at f; cases f
    have hfr : hp s.heap.objs.size = none := by have f := r.fresh; rw [Hp.sn _ _ hne] at f; exact f
    have le : ImmLe s.heap h₀ := ImmLe.keep hk₀
    have rel : Rel B0 ((hp.set env.locals (.ns m)).set (callEnv fd s.heap.objs.size f).locals (.ns (Za0 bs))) { s with heap := h₀, toks := s.toks + us.length } := by
      refine ⟨fun b o e => hk₀ _ _ (r.keep b o e), fun a o' e => ?_, r.os, r.bare, ?_⟩
      · by_cases ha : a = s.heap.objs.size
        · subst ha
          rw [show (callEnv fd s.heap.objs.size f).locals = s.heap.objs.size from rfl, Hp.ss] at e
          cases e
          exact ⟨r.size, _, hns, Zg9 e1 (e2.mono le)⟩
        · rw [show (callEnv fd s.heap.objs.size f).locals = s.heap.objs.size from rfl, Hp.sn _ _ ha] at e
          exact ⟨(r.objs a o' e).1, (r.objs a o' e).2.here le fun o'' e => hk₀ _ _ e⟩
      · exact Nat.le_trans r.size (Nat.le_of_lt hns.lt)
    refine wpAny_mono (h _ hfr hne _ rel) (fun fl s' x => ?_) fun _ _ x => x.elim
    refine hide fun Gq kq => ?_
    obtain ⟨af, m', hp', r', le', hf, hp₂, hsub, q⟩ := x
    refine kq ?_; clear kq Gq
    refine mkV (av := Zfe af) (r'.sub fun a o e => ?_) (le.trans le') (Zhv hf) q
    have := hsub a o e
    rw [show (callEnv fd s.heap.objs.size f).locals = s.heap.objs.size from rfl, Hp.sn _ _ this.2]
    exact this.1
theorem Zm6 {h : Heap} {xs : List AV} {vs : Array Value} (hv : VRs h xs vs.toList) (lo hi : Option Int) : VRs h (pick xs lo hi) (slicePick vs lo hi none).toList := by
  rw [slicePick_plain]
  have e : vs.size = xs.length := by rw [← Array.length_toList]; exact hv.length
  rw [e]
  exact (hv.drop _).take _
noncomputable abbrev Zi8 (PW : Program) (W0 : World) (A : Around) (E : Value → Shared → Prop) (B0 : Shared) (env : Env) (m : Loc) (lower : Option Expr) (upper : Option Expr) (Q : AV → Hp → Prop) : AV → Hp → Prop := fun o hp₁ => optE (model PW W0) B0 E A env lower m hp₁ fun lo hp₂ => optE (model PW W0) B0 E A env upper m hp₂ fun hi hp₃ => ∃ a xs kl ku, o = .ref a ∧ Lst B0 hp₃ env.locals a xs ∧ xs.length ≤ sizeLine ∧ Zf4 lo = some kl ∧ Zf4 hi = some ku ∧ ∀ b, hp₃ b = none → b ≠ env.locals → Q (.ref b) (hp₃.set b (.list (pick xs kl ku)))
theorem Znn {value : Expr} {lower upper : Option Expr} {p pos} {Q : AV → Hp → Prop}
    (h : EV (model PW W0) B0 E A env value m hp (Zi8 PW W0 A E B0 env m lower upper Q))
    (ht : ∀ o r, letTemporaryGo value o r = pure () := by intro _ _; rfl) :
    EV (model PW W0) B0 E A env (.Subscript value (.Slice lower upper none p) pos) m hp Q := fun s r => by
  refine wpAny_Subscript_list_slice (h.use r fun u s₁ o hp₁ r₁ le₁ hu h₁ => h₁.use r₁ fun vl s₂ lo hp₂ r₂ le₂ hl h₂ => h₂.use r₂ fun vu s₃ hi hp₃ r₃ le₃ hh h₃ => ?_) ht
  refine hide fun Gq kq => ?_
  obtain ⟨a, xs, kl, ku, rfl, hls, hsz, pl, pu, q⟩ := h₃
  simp only [VR] at hu; subst hu
  obtain ⟨vs, hlst, hvs⟩ := r₃.lst hls
  refine kq ?_; clear kq Gq
  have e : vs.size = xs.length := by rw [← Array.length_toList]; exact hvs.length
  refine ⟨a, vs, kl, ku, rfl, hlst, by rw [e]; exact hsz, (hl.mono le₃).part pl, hh.part pu, ?_⟩
  have r₄ := r₃.push { cls := .type "slice", data := .fields #[vl, vu, .none] }
  have le₄ : ImmLe s₃.heap (s₃.heap.push { cls := .type "slice", data := .fields #[vl, vu, .none] }) := ImmLe.keep fun b o'' e => Heap.get?_push_of_some _ e
  have n := Rel.newAt r₄ { cls := .type "list", data := .seq (slicePick vs kl ku none) } (.list (pick xs kl ku)) ⟨_, 0, IsL.new _ _, Zm6 (hvs.mono (le₄.trans (ImmLe.keep fun b o'' e => Heap.get?_push_of_some _ e))) kl ku⟩
  have hs : (s₃.heap.push { cls := .type "slice", data := .fields #[vl, vu, .none] }).objs.size = s₃.heap.objs.size + 1 := by simp
  simp only [hs] at n
  exact mkV (av := .ref _) n.1 (((le₁.trans le₂).trans le₃).trans (le₄.trans n.2.2.2)) VR_ref (q _ n.2.1 n.2.2.1)
theorem Zd2 {name : PySem.Str} {id : String} {pl : Sem Bool} {s : Shared} {a : Addr} {xs : List AV} {Q : Value × List Value → Shared → Prop} (slot : Slot "list" name id) (hty : typeOf (.builtin id) = pure (.type "method_descriptor"))
    (r : Rel B0 (hp.set env.locals (.ns m)) s) (ha : hp a = some (.list xs)) (hL : a ≠ env.locals) (h : Q (.builtin id, [.ref a]) s) : wpAny (model PW W0) A (getMethod (.ref a) name pl) Q E s := by
  refine hide fun Gq kq => ?_
  obtain ⟨vs, n, hl, _⟩ := r.at ha hL
  refine kq ?_; clear kq Gq
  exact getMethod_builtin hl.isList.typeIs PySem.F.plainAttrs_list slot hty (fun b e => by cases e; exact ⟨_, hl, rfl⟩) h
noncomputable abbrev Zhj (PW : Program) (W0 : World) (A : Around) (E : Value → Shared → Prop) (B0 : Shared) (env : Env) (m : Loc) (e : Expr) (Q : AV → Hp → Prop) : AV → Hp → Prop := fun l hp₁ => ∃ a xs₁, l = .ref a ∧ hp₁ a = some (.list xs₁) ∧ a ≠ env.locals ∧ EVS (model PW W0) B0 E A env [e] m hp₁ fun vs hp₂ => ∃ xs v, vs = [v] ∧ hp₂ a = some (.list xs) ∧ xs.length ≤ sizeLine ∧ Q .none (hp₂.set a (.list (xs ++ [v])))
theorem Zba {o e : Expr} {apos pos} {pl : Sem Bool} {Q : AV → Hp → Prop}
    (h : EV (model PW W0) B0 E A env o m hp (Zhj PW W0 A E B0 env m e Q))
    (hc : eval (.Call (.Attribute o (PySem.Str.ofString "append") apos) [e] [] pos) env = (do
      let ov ← eval o env
      standAt apos.atName
      let (f, first) ← holding [ov] (getMethod ov (PySem.Str.ofString "append") pl)
      callWith pos f first (backTo pos (starEach [e] env)) []) := by rfl)
    (he : starEach [e] env = [(false, eval e env)] := by rfl) :
    EV (model PW W0) B0 E A env (.Call (.Attribute o (PySem.Str.ofString "append") apos) [e] [] pos) m hp Q := fun s r => by
  refine MethodCall_ (pl := pl) (h.use r fun u s₁ l hp₁ r₁ le₁ hu x => ?_) hc
  refine hide fun Gq kq => ?_
  obtain ⟨a, xs₁, rfl, ha, hL, q⟩ := x
  refine kq ?_; clear kq Gq
  simp only [VR] at hu; subst hu
  refine Zd2 slot_list_append type_list_append r₁ ha hL ?_
  refine callWith_method1 (Zc3 (q pos s₁ r₁) fun vs s₂ avs hp₂ r₂ le₂ hv x => ?_) he
  refine hide fun Gq kq => ?_
  obtain ⟨xs, v, rfl, ha₂, hsz, q⟩ := x
  obtain ⟨y, rfl, hy⟩ := Zbo hv
  obtain ⟨us, n, hl, hus⟩ := r₂.at ha₂ hL
  refine kq ?_; clear kq Gq
  have e2 : us.size = xs.length := by rw [← Array.length_toList]; exact hus.length
  refine wpAny_list_append_plain (items := us) ⟨n, hl⟩ (fun h' hpl hs => ?_) (by rw [e2]; exact hsz)
  refine hide fun Gq kq => ?_
  obtain ⟨n', hl'⟩ := hpl
  refine kq ?_; clear kq Gq
  have t := r₂.turn (a := a) (Hp.snt hL ha₂) hs (.list (xs ++ [v])) (fun le => ⟨us.push y, n', hl', by rw [Array.toList_push]; exact (hus.mono le).append (VRs.one (hy.mono le))⟩) s₂.toks
  rw [Hp.sc _ _ _ (Ne.symm hL)] at t
  exact mkV (av := .none) t.1 ((le₁.trans le₂).trans t.2) VR_none q
noncomputable abbrev Zli (m : Loc) (Q : AF → Loc → Hp → Prop) : AV → Hp → Prop := fun v hp' => (∀ a, v ≠ .ref a) ∧ (∀ xs, v ≠ .tup xs) ∧ (∀ xs, v ≠ .mat xs) ∧ Q .next m hp'
theorem Za3 {e : Expr} {pos} {Q : AF → Loc → Hp → Prop} (h : EV (model PW W0) B0 E A env e m hp (Zli m Q)) (hi : interactive env = false := by rfl)
    (hs : swapsWith e none pos.line env = pure false := by rfl) : EX (model PW W0) B0 E A env (.Expr e pos) m hp Q := fun s r => by
  refine wpAny_Expr (h.use r fun u s₁ v hp₁ r₁ le₁ hu q => ?_) hi hs
  have post : ∃ af m' hp', Rel B0 (hp'.set env.locals (.ns m')) s₁ ∧ ImmLe s.heap s₁.heap ∧ FR s₁.heap af .next ∧ Q af m' hp' := mkX (af := .next) r₁ le₁ rfl q.2.2.2
  cases v with
  | ref a => exact absurd rfl (q.1 a)
  | tup xs => exact absurd rfl (q.2.1 xs)
  | mat xs => exact absurd rfl (q.2.2.1 xs)
  | none => simp only [VR] at hu; subst hu; exact post
  | bool b => simp only [VR] at hu; subst hu; exact post
  | int b => simp only [VR] at hu; obtain ⟨t, rfl⟩ := hu; exact post
  | str b => simp only [VR] at hu; obtain ⟨t, rfl⟩ := hu; exact post
  | flt b => simp only [VR] at hu; obtain ⟨t, rfl⟩ := hu; exact post
  | ty b => simp only [VR] at hu; subst hu; exact post
  | bi b => simp only [VR] at hu; subst hu; exact post
end
section
variable {A : Around} {E : Value → Shared → Prop} {env : Env} {m : Loc} {hp : Hp} {K : Frag}
theorem Rel.ext {s : Shared} (r : Rel B0 (hp.set env.locals (.ns m)) s) {h' : Heap} (he : Heap.ExtBut s.heap.objs.size s.heap h') (t : Nat) : Rel B0 (hp.set env.locals (.ns m)) { s with heap := h', toks := t } ∧ ImmLe s.heap h' := by
  have k : ∀ b o, s.heap.get? b = some o → h'.get? b = some o := fun b o e => he b o (Nat.ne_of_lt (Heap.lt_size e)) e
  refine ⟨⟨fun b o e => k b o (r.keep b o e), fun a o e => ⟨(r.objs a o e).1, (r.objs a o e).2.here (ImmLe.keep k) fun o' e' => k _ _ e'⟩, r.os, r.bare, ?_⟩, ImmLe.keep k⟩
  obtain ⟨h1, h2⟩ := r.objs env.locals _ (Hp.ss ..)
  obtain ⟨ob, hob⟩ := h2.ex
  exact Nat.le_trans h1 (Nat.le_of_lt (Heap.lt_size (k _ _ hob)))
noncomputable def ASG (M : Model) (B0 : Shared) (E : Value → Shared → Prop) (A : Around) (env : Env) (t : Expr) (x : AV) (m : Loc) (hp : Hp) (Q : Loc → Hp → Prop) : Prop :=
  ∀ s v, Rel B0 (hp.set env.locals (.ns m)) s → VR s.heap x v → wpAny M A (assign t env v) (fun _ s' => ∃ m' hp', Rel B0 (hp'.set env.locals (.ns m')) s' ∧ ImmLe s.heap s'.heap ∧ Q m' hp') E s
theorem Zak {x : PySem.Str} {pos} {v : AV} {Q : Loc → Hp → Prop} (h : Q (upd m x v) hp) (hl : env.kindOf x = some .local := by rfl)
    (hk : (env.scope.kind == .class || (env.scope.kind == .module && env.locals != env.globals)) = false := by rfl) : ASG (model PW W0) B0 E A env (.Name x pos) v m hp Q := fun s u r hu =>
  PyProof.Rows.assign_Name (Zb1 r hu (fun s' r' le => mkA r' le h) hl hk)
noncomputable def ASGS (M : Model) (B0 : Shared) (E : Value → Shared → Prop) (A : Around) (env : Env) (ts : List (Value → Sem Unit)) (xs : List AV) (m : Loc) (hp : Hp) (Q : Loc → Hp → Prop) : Prop :=
  ∀ s vs, Rel B0 (hp.set env.locals (.ns m)) s → VRs s.heap xs vs → wpAny M A (assignInOrder ts vs) (fun _ s' => ∃ m' hp', Rel B0 (hp'.set env.locals (.ns m')) s' ∧ ImmLe s.heap s'.heap ∧ Q m' hp') E s
theorem Zaq {Q : Loc → Hp → Prop} (h : Q m hp) : ASGS (model PW W0) B0 E A env [] [] m hp Q := fun s vs r _ => assignInOrder_nil ⟨m, hp, r, .refl _, h⟩
noncomputable abbrev Zhl (PW : Program) (W0 : World) (A : Around) (E : Value → Shared → Prop) (B0 : Shared) (env : Env) (ts : List (Value → Sem Unit)) (xs : List AV) (Q : Loc → Hp → Prop) : Loc → Hp → Prop := fun m' hp' => ASGS (model PW W0) B0 E A env ts xs m' hp' Q
theorem Zan {t : Expr} {ts : List (Value → Sem Unit)} {x : AV} {xs : List AV} {Q : Loc → Hp → Prop} (h : ASG (model PW W0) B0 E A env t x m hp (Zhl PW W0 A E B0 env ts xs Q)) :
    ASGS (model PW W0) B0 E A env (assign t env :: ts) (x :: xs) m hp Q := fun s vs r hv => by
  simp only [VRs] at hv
  obtain ⟨v, us, rfl, h1, h2⟩ := hv
  refine assignInOrder_cons (useA (h s v r h1) fun _ s₁ m₁ hp₁ r₁ le₁ q => ?_)
  exact useA (q s₁ us r₁ (h2.mono le₁)) fun _ s₂ m₂ hp₂ r₂ le₂ q => mkA r₂ (le₁.trans le₂) q
theorem Zal {x : PySem.Str} {ts : List (Value → Sem Unit)} {v : AV} {xs : List AV} {Q : Loc → Hp → Prop} (h : ASGS (model PW W0) B0 E A env ts xs (upd m x v) hp Q) (hl : env.kindOf x = some .local := by rfl)
    (hk : (env.scope.kind == .class || (env.scope.kind == .module && env.locals != env.globals)) = false := by rfl) : ASGS (model PW W0) B0 E A env (bindName env x :: ts) (v :: xs) m hp Q := fun s vs r hv => by
  simp only [VRs] at hv
  obtain ⟨v, us, rfl, h1, h2⟩ := hv
  refine assignInOrder_cons (bindName_ (Zb1 r h1 (fun s₁ r₁ le₁ => ?_) hl hk))
  exact useA (h s₁ us r₁ (h2.mono le₁)) fun _ s₂ m₂ hp₂ r₂ le₂ q => mkA r₂ (le₁.trans le₂) q
theorem Zb5 {elts : List Expr} {k pos} {xs : List AV} {ts : List (Value → Sem Unit)} {Q : Loc → Hp → Prop} (hh : A.handled = none) (hts : (assignEach elts env).map (·.2) = ts) (hn : (assignEach elts env).length = xs.length) (hstar : (assignEach elts env).findIdx? (·.1) = none)
    (h : ASGS (model PW W0) B0 E A env ts xs m hp Q) : ASG (model PW W0) B0 E A env (.Tuple elts k pos) (.tup xs) m hp Q := fun s v r hv => by
  simp only [VR] at hv
  obtain ⟨a, vs, rfl, ht, hvs⟩ := hv
  refine assign_Tuple_tuple hh ht (by rw [hn, ← hvs.length, Array.length_toList]) hstar fun h' he => ?_
  obtain ⟨r', le⟩ := r.ext he s.toks
  rw [hts]
  exact useA (h _ _ r' (hvs.mono le)) fun _ s₂ m₂ hp₂ r₂ le₂ q => mkA r₂ (le.trans le₂) q
noncomputable abbrev Zgu (PW : Program) (W0 : World) (A : Around) (E : Value → Shared → Prop) (B0 : Shared) (env : Env) (m : Loc) (t₁ : Expr) (t₂ : Expr) (Q : AF → Loc → Hp → Prop) : AV → Hp → Prop := fun v hp₁ => ASG (model PW W0) B0 E A env t₁ v m hp₁ fun m₂ hp₂ => ASG (model PW W0) B0 E A env t₂ v m₂ hp₂ fun m₃ hp₃ => Q .next m₃ hp₃
theorem Zbb {t₁ t₂ value : Expr} {pos} {Q : AF → Loc → Hp → Prop}
    (h : EV (model PW W0) B0 E A env value m hp (Zgu PW W0 A E B0 env m t₁ t₂ Q))
    (he : (assignEach [t₁, t₂] env).map (·.2) = [assign t₁ env, assign t₂ env] := by rfl) (hw : swappedStores [t₁, t₂] value env = pure none := by rfl) : EX (model PW W0) B0 E A env (.Assign [t₁, t₂] value pos) m hp Q := fun s r => by
  refine wpAny_Assign_two (h.use r fun u s₁ v hp₁ r₁ le₁ hu q => ?_) he hw
  refine useA (q s₁ u r₁ hu) fun _ s₂ m₂ hp₂ r₂ le₂ q => ?_
  exact useA (q s₂ u r₂ (hu.mono le₂)) fun _ s₃ m₃ hp₃ r₃ le₃ q => mkX (af := .next) r₃ ((le₁.trans le₂).trans le₃) rfl q
noncomputable abbrev Zgt (PW : Program) (W0 : World) (A : Around) (E : Value → Shared → Prop) (B0 : Shared) (env : Env) (m : Loc) (t₁ : Expr) (t₂ : Expr) (t₃ : Expr) (Q : AF → Loc → Hp → Prop) : AV → Hp → Prop := fun v hp₁ => ASG (model PW W0) B0 E A env t₁ v m hp₁ fun m₂ hp₂ => ASG (model PW W0) B0 E A env t₂ v m₂ hp₂ fun m₃ hp₃ => ASG (model PW W0) B0 E A env t₃ v m₃ hp₃ fun m₄ hp₄ => Q .next m₄ hp₄
theorem Zji {t₁ t₂ t₃ value : Expr} {pos} {Q : AF → Loc → Hp → Prop}
    (h : EV (model PW W0) B0 E A env value m hp (Zgt PW W0 A E B0 env m t₁ t₂ t₃ Q))
    (he : (assignEach [t₁, t₂, t₃] env).map (·.2) = [assign t₁ env, assign t₂ env, assign t₃ env] := by rfl) (hw : swappedStores [t₁, t₂, t₃] value env = pure none := by rfl) : EX (model PW W0) B0 E A env (.Assign [t₁, t₂, t₃] value pos) m hp Q := fun s r => by
  refine wpAny_Assign_three (h.use r fun u s₁ v hp₁ r₁ le₁ hu q => ?_) he hw
  refine useA (q s₁ u r₁ hu) fun _ s₂ m₂ hp₂ r₂ le₂ q => ?_
  refine useA (q s₂ u r₂ (hu.mono le₂)) fun _ s₃ m₃ hp₃ r₃ le₃ q => ?_
  exact useA (q s₃ u r₃ ((hu.mono le₂).mono le₃)) fun _ s₄ m₄ hp₄ r₄ le₄ q => mkX (af := .next) r₄ (((le₁.trans le₂).trans le₃).trans le₄) rfl q
noncomputable abbrev Zgq (PW : Program) (W0 : World) (A : Around) (E : Value → Shared → Prop) (B0 : Shared) (env : Env) (m : Loc) (elts : List Expr) (Q : AF → Loc → Hp → Prop) (k : Nat) (tpos : Pos) : AV → Hp → Prop := fun v hp₁ => ASG (model PW W0) B0 E A env (.Tuple elts k tpos) v m hp₁ fun m₂ hp₂ => Q .next m₂ hp₂
theorem Zcz {elts : List Expr} {k tpos} {value : Expr} {pos} {Q : AF → Loc → Hp → Prop}
    (h : EV (model PW W0) B0 E A env value m hp (Zgq PW W0 A E B0 env m elts Q k tpos))
    (hs : swapsWithSole [.Tuple elts k tpos] value pos.line env = pure false := by rfl) (hw : swappedStores [.Tuple elts k tpos] value env = pure none := by rfl) : EX (model PW W0) B0 E A env (.Assign [.Tuple elts k tpos] value pos) m hp Q := fun s r => by
  refine Assign_Tuple (h.use r fun u s₁ v hp₁ r₁ le₁ hu q => ?_) hs hw
  exact useA (q s₁ u r₁ hu) fun _ s₂ m₂ hp₂ r₂ le₂ q => mkX (af := .next) r₂ (le₁.trans le₂) rfl q
noncomputable abbrev Zfw (PW : Program) (W0 : World) (A : Around) (E : Value → Shared → Prop) (B0 : Shared) (env : Env) (m : Loc) (names : List PySem.Str) (Q : AF → Loc → Hp → Prop) : AV → Hp → Prop := fun v hp₁ => ∃ xs, v = .tup xs ∧ names.length = xs.length ∧ ASGS (model PW W0) B0 E A env (names.reverse.map fun n => bindName env n) xs.reverse m hp₁ fun m₂ hp₂ => Q .next m₂ hp₂
theorem Zar {elts : List Expr} {k tpos} {value : Expr} {pos} {names : List PySem.Str} {Q : AF → Loc → Hp → Prop} (hh : A.handled = none)
    (h : EV (model PW W0) B0 E A env value m hp (Zfw PW W0 A E B0 env m names Q))
    (hs : swapsWithSole [.Tuple elts k tpos] value pos.line env = pure false := by rfl) (hw : swappedStores [.Tuple elts k tpos] value env = pure (some names) := by rfl) : EX (model PW W0) B0 E A env (.Assign [.Tuple elts k tpos] value pos) m hp Q := fun s r => by
  refine Assign_Tuple_swapped (names := names) (h.use r fun u s₁ v hp₁ r₁ le₁ hu q => ?_) hs hw
  refine hide fun Gq kq => ?_
  obtain ⟨xs, rfl, hn, q⟩ := q
  simp only [VR] at hu
  obtain ⟨a, vs, rfl, ht, hvs⟩ := hu
  refine kq ?_; clear kq Gq
  have e : names.length = vs.size := by rw [hn, ← hvs.length, Array.length_toList]
  rw [e]
  refine unpackItems_tuple hh ht fun h' he => ?_
  refine hide fun Gq kq => ?_
  obtain ⟨r', le⟩ := r₁.ext he s₁.toks
  refine kq ?_; clear kq Gq
  have hrev : ∀ {xs : List AV} {vs : List Value}, VRs h' xs vs → VRs h' xs.reverse vs.reverse := by
    intro xs
    induction xs with
    | nil => intro vs x; simp only [VRs] at x; subst x; simp [VRs]
    | cons x xs ih =>
      intro vs hx
      simp only [VRs] at hx
      obtain ⟨v, r, rfl, h1, h2⟩ := hx
      rw [List.reverse_cons, List.reverse_cons]
      exact (ih h2).append (VRs.one h1)
  exact useA (q _ _ r' (hrev (hvs.mono le))) fun _ s₂ m₂ hp₂ r₂ le₂ q => mkX (af := .next) r₂ ((le₁.trans le).trans le₂) rfl q
end
noncomputable def Hp.del (hp : Hp) (a : Addr) : Hp := fun b => if b = a then none else hp b
section
variable {A : Around} {E : Value → Shared → Prop} {env : Env} {m : Loc} {hp : Hp} {K : Frag}
theorem Rel.drop {s : Shared} (r : Rel B0 (hp.set env.locals (.ns m)) s) {it : Addr} {ob : Obj} (hit : hp it = some (.obj ob)) (hL : it ≠ env.locals) {h' : Heap} (he : Heap.ExtBut it s.heap h') (t : Nat) :
    Rel B0 ((hp.del it).set env.locals (.ns m)) { s with heap := h', toks := t } ∧ ImmLe s.heap h' := by
  have hit' : (hp.set env.locals (.ns m)) it = some (.obj ob) := Hp.snt hL hit
  have le : ImmLe s.heap h' := fun b o e i => by
    by_cases hb : b = it
    · subst hb; exact absurd i ((r.objs _ _ hit').2.notImm _ e)
    · exact he b o hb e
  have hlow := (r.objs _ _ hit').1
  refine ⟨⟨fun b o e => he b o (fun hb => ?_) (r.keep b o e), fun a o e => ?_, r.os, r.bare, ?_⟩, le⟩
  · subst hb; exact absurd (Heap.lt_size e) (Nat.not_lt.mpr hlow)
  · have ha : a ≠ it := by
      rintro rfl
      rw [Hp.sn _ _ hL] at e
      simp [Hp.del] at e
    have e' : (hp.set env.locals (.ns m)) a = some o := by
      by_cases hl : a = env.locals
      · subst hl; rw [Hp.ss] at e ⊢; exact e
      · rw [Hp.sn _ _ hl] at e ⊢; simpa [Hp.del, ha] using e
    exact ⟨(r.objs a o e').1, (r.objs a o e').2.here le fun o' e'' => he _ _ ha e''⟩
  · obtain ⟨h1, h2⟩ := r.objs env.locals _ (Hp.ss ..)
    obtain ⟨ob', hob⟩ := h2.ex
    exact Nat.le_trans h1 (Nat.le_of_lt (Heap.lt_size (he _ _ (Ne.symm hL) hob)))
theorem Zbu {target : Expr} {it : Addr} {v : Value} {ob : Obj} {n : String} {s : Shared} {W : Unit → Shared → Prop} {E' : Value → Shared → Prop} (h : s.heap.get? it = some ob) (hc : ob.cls = .type n)
    (hn : ["enumerate", "zip", "dict_itemiterator", "dict_reverseitemiterator", "odict_iterator", "itertools.zip_longest", "itertools.pairwise"].contains n = false) (hW : W () s) : wpAny (model PW W0) A (letOwnedTupleGo target (.ref it) v) W E' s := by
  have tup : wpAny (model PW W0) A (letOwnedTupleGo (.Tuple [] 0 ⟨0, 0, 0, 0⟩) (.ref it) v) W E' s := by
    cases v with
    | ref a =>
      refine wpAny_bind (wpAny_load h ?_)
      obtain ⟨c, d, dt, sl⟩ := ob
      dsimp only at hc
      subst hc
      cases dt with
      | fields vs => dsimp only; rw [hn]; exact wpAny_pure hW
      | _ => exact wpAny_pure hW
    | _ => exact wpAny_pure hW
  cases target with
  | Tuple => exact tup
  | List => exact tup
  | _ => exact wpAny_pure hW
theorem Zik {target : Expr} {body : List Stmt} {it : Addr} {n : Nat} {el : Nat → AV} {st : Nat → Obj → Prop} {I : Nat → Loc → Hp → Prop} {Q : AF → Loc → Hp → Prop} {R : Result → Shared → Prop} (hL : it ≠ env.locals)
    (imm : ∀ i ob, st i ob → ¬ Imm ob)
    (next : ∀ i m₂ hp₂ s ob, i < n → I i m₂ hp₂ → hp₂ it = some (.obj ob) → st i ob → Rel B0 (hp₂.set env.locals (.ns m₂)) s → ∀ (E' : Value → Shared → Prop) (W : Option Value → Shared → Prop),
      (∀ v h' t' ob', VR s.heap (el i) v → h'.get? it = some ob' → st (i + 1) ob' → Heap.SameBut it s.heap h' → W (some v) { s with heap := h', toks := t' }) → wpAny (model PW W0) A (pyNext (.ref it)) W E' s)
    (stop : ∀ m₂ hp₂ s ob, I n m₂ hp₂ → hp₂ it = some (.obj ob) → st n ob → Rel B0 (hp₂.set env.locals (.ns m₂)) s → ∀ (E' : Value → Shared → Prop) (W : Option Value → Shared → Prop),
      (∀ h' t', Heap.ExtBut it s.heap h' → W none { s with heap := h', toks := t' }) → wpAny (model PW W0) A (pyNext (.ref it)) W E' s)
    (hset : ∀ i m₂ hp₂ ob, I i m₂ hp₂ → I i m₂ (hp₂.set it (.obj ob)))
    (turn : ∀ i m₂ hp₂ ob, i < n → I i m₂ hp₂ → hp₂ it = some (.obj ob) → ASG (model PW W0) B0 (fun _ _ => False) A env target (el i) m₂ hp₂ fun m₃ hp₃ => EXs (model PW W0) B0 (fun _ _ => False) A env body m₃ hp₃ fun fl m₄ hp₄ =>
      match fl with | .next | .cont => I (i + 1) m₄ hp₄ ∧ hp₄ it = some (.obj ob) | .brk => Q .next m₄ hp₄ | .ret v => Q (.ret v) m₄ hp₄)
    (fin : ∀ m₂ hp₂, I n m₂ hp₂ → Q .next m₂ (hp₂.del it)) {s₀ : Shared}
    (hR : ∀ fl af m' hp' s', Rel B0 (hp'.set env.locals (.ns m')) s' → ImmLe s₀.heap s'.heap → FR s'.heap af fl → Q af m' hp' → R (.ok fl) s')
    {s : Shared} {ob : Obj} (h0 : I 0 m hp) (hob : hp it = some (.obj ob)) (hst : st 0 ob) (rel : Rel B0 (hp.set env.locals (.ns m)) s) (le₀ : ImmLe s₀.heap s.heap)
    (cl : ∀ i ob, st i ob → ∃ n, ob.cls = .type n ∧ ["enumerate", "zip", "dict_itemiterator", "dict_reverseitemiterator", "odict_iterator", "itertools.zip_longest", "itertools.pairwise"].contains n = false) :
    codeAny (model PW W0) A (.forLoop target (.ref it) body [] env) R s := by
  refine codeAny_forLoop_any (fun k s' => ∃ i m₂ hp₂ ob, k = n - i ∧ i ≤ n ∧ I i m₂ hp₂ ∧ hp₂ it = some (.obj ob) ∧ st i ob ∧ Rel B0 (hp₂.set env.locals (.ns m₂)) s' ∧ ImmLe s₀.heap s'.heap) (fun k s' x => ?_) n ⟨0, m, hp, ob, rfl, Nat.zero_le _, h0, hob, hst, rel, le₀⟩
  refine hide fun Gq kq => ?_
  obtain ⟨i, m₂, hp₂, ob, rfl, hi, hI, hob, hst, r, le⟩ := x
  refine kq ?_; clear kq Gq
  by_cases hlt : i < n
  · refine next i m₂ hp₂ s' ob hlt hI hob hst r _ _ fun v h' t' ob' hv hg hst' hs => ?_
    refine hide fun Gq kq => ?_
    have t := r.turn (a := it) (o := .obj ob) (Hp.snt hL hob) hs (.obj ob') (fun _ => ⟨hg, imm _ _ hst'⟩) t'
    rw [Hp.sc _ _ _ (Ne.symm hL)] at t
    obtain ⟨nm, hcl, hno⟩ := cl _ _ hst'
    refine kq ?_; clear kq Gq
    refine Zbu hg hcl hno ?_
    have hturn := turn i m₂ (hp₂.set it (.obj ob')) ob' hlt (hset _ _ _ _ hI) (Hp.ss ..)
    refine Zn5 (hturn _ v t.1 (hv.mono t.2)) fun _ s₃ m₃ hp₃ r₃ le₃ q => ?_
    refine Zn3 (q s₃ r₃) fun fl s₄ af m₄ hp₄ r₄ le₄ hf q => ?_
    have leAll : ImmLe s₀.heap s₄.heap := ((le.trans t.2).trans le₃).trans le₄
    cases af with
    | next => cases hf; exact ⟨n - (i + 1), Zbt hlt, i + 1, m₄, hp₄, ob', rfl, hlt, q.1, q.2, hst', r₄, leAll⟩
    | cont => cases hf; exact ⟨n - (i + 1), Zbt hlt, i + 1, m₄, hp₄, ob', rfl, hlt, q.1, q.2, hst', r₄, leAll⟩
    | brk => cases hf; exact hR _ .next _ _ _ r₄ leAll rfl q
    | ret v => obtain ⟨u, rfl, hu⟩ := hf; exact hR _ (.ret v) _ _ _ r₄ leAll ⟨u, rfl, hu⟩ q
  · have : i = n := by lia
    subst this
    refine stop m₂ hp₂ s' ob hI hob hst r _ _ fun h' t' he => ?_
    refine hide fun Gq kq => ?_
    obtain ⟨r', le'⟩ := r.drop hob hL he t'
    refine kq ?_; clear kq Gq
    exact wpAny_execs_nil (hR _ .next _ _ _ r' (le.trans le') rfl (fin _ _ hI))
theorem Zem {target iter : Expr} {body : List Stmt} {pos} {Q : AF → Loc → Hp → Prop} (hh : A.handled = none)
    (h : EV (model PW W0) B0 E A env iter m hp fun o hp₁ => ∃ a xs, o = .ref a ∧ Lst B0 hp₁ env.locals a xs ∧ ∀ it, hp₁ it = none → it ≠ env.locals → ∃ I : Nat → Loc → Hp → Prop,
      (∀ ob, I 0 m (hp₁.set it (.obj ob))) ∧ (∀ i m₂ hp₂ ob, I i m₂ hp₂ → I i m₂ (hp₂.set it (.obj ob))) ∧ (∀ i m₂ hp₂, I i m₂ hp₂ → Lst B0 hp₂ env.locals a xs) ∧
      (∀ i x m₂ hp₂ ob, xs[i]? = some x → I i m₂ hp₂ → hp₂ it = some (.obj ob) → ASG (model PW W0) B0 (fun _ _ => False) A env target x m₂ hp₂ fun m₃ hp₃ => EXs (model PW W0) B0 (fun _ _ => False) A env body m₃ hp₃ fun fl m₄ hp₄ =>
        match fl with | .next | .cont => I (i + 1) m₄ hp₄ ∧ hp₄ it = some (.obj ob) | .brk => Q .next m₄ hp₄ | .ret v => Q (.ret v) m₄ hp₄) ∧
      (∀ m₂ hp₂, I xs.length m₂ hp₂ → Q .next m₂ (hp₂.del it)))
    (hs : ∀ x, foldedSetIterable iter env x = pure x := by intro _; rfl) :
    EX (model PW W0) B0 E A env (.For target iter body [] pos) m hp Q := fun s r => by
  refine wpAny_For (h.use r fun u s₁ o hp₁ r₁ le₁ hu x => ?_) hs
  refine hide fun Gq kq => ?_
  obtain ⟨a, xs, rfl, hl, x⟩ := x
  simp only [VR] at hu; subst hu
  obtain ⟨vs, hlst, hvs⟩ := r₁.lst hl
  refine kq ?_; clear kq Gq
  refine wpAny_pyIter_list hlst ?_
  refine hide fun Gq kq => ?_
  have n := r₁.newAt { cls := .type "list_iterator", data := .fields #[.ref a, .int 0 0] } (.obj { cls := .type "list_iterator", data := .fields #[.ref a, .int 0 0] }) ⟨Heap.get?_push_size _ rfl, fun i => by obtain ⟨_, _, _, e⟩ := i; cases e⟩
  obtain ⟨I, h0, hset, hlI, turn, fin⟩ := x _ n.2.1 n.2.2.1
  refine kq ?_; clear kq Gq
  refine Zik (n := xs.length) (el := fun i => xs.getD i .none) (st := fun i ob => ob.cls = .type "list_iterator" ∧ ob.data = .fields #[.ref a, .int i 0]) (I := I) (Q := Q) (s₀ := s) n.2.2.1 (fun i ob x i' => by obtain ⟨_, _, _, e⟩ := i'; rw [x.2] at e; cases e)
    (fun i m₂ hp₂ s' ob hi hI hob hst r' E' W k => ?_) (fun m₂ hp₂ s' ob hI hob hst r' E' W k => ?_) hset (fun i m₂ hp₂ ob hi hI hob => turn i _ m₂ hp₂ ob (by simp [List.getD, List.getElem?_eq_getElem hi]) hI hob) fin
    (fun fl af m' hp' s' r' le' hf q => mkX (af := af) r' le' hf q) (h0 _) (Hp.ss ..) ⟨rfl, rfl⟩ n.1 (le₁.trans n.2.2.2) (fun _ _ x => ⟨_, x.1, rfl⟩)
  · refine hide fun Gq kq => ?_
    obtain ⟨vs', hl', hvs'⟩ := r'.lst (hlI _ _ _ hI)
    obtain ⟨v, hv, hxv⟩ := hvs'.get (i := i) (x := xs.getD i .none) (by simp [List.getD, List.getElem?_eq_getElem hi])
    refine kq ?_; clear kq Gq
    have hg : s'.heap.get? s₁.heap.objs.size = some ob := (r'.at hob n.2.2.1).1
    refine wpAny_pyNext_list_item (i := i) ⟨ob, hg, hst.1, hst.2⟩ hl' (by simpa using hv) fun h' hit' hs' => ?_
    refine hide fun Gq kq => ?_
    obtain ⟨ob', hg', hc', hd'⟩ := hit'
    refine kq ?_; clear kq Gq
    exact k v h' s'.toks ob' hxv hg' ⟨hc', hd'⟩ hs'
  · refine hide fun Gq kq => ?_
    obtain ⟨vs', hl', hvs'⟩ := r'.lst (hlI _ _ _ hI)
    refine kq ?_; clear kq Gq
    have hg : s'.heap.get? s₁.heap.objs.size = some ob := (r'.at hob n.2.2.1).1
    refine wpAny_pyNext_list_end hh (i := xs.length) ⟨ob, hg, hst.1, hst.2⟩ hl' ?_ fun h' he => k h' s'.toks he
    have e : vs'.size = xs.length := by rw [← Array.length_toList]; exact hvs'.length
    exact Array.getElem?_eq_none (by lia)
end
section
variable {A : Around} {E : Value → Shared → Prop} {env : Env} {m : Loc} {hp : Hp} {K : Frag}
noncomputable abbrev Zi9 (PW : Program) (W0 : World) (A : Around) (E : Value → Shared → Prop) (B0 : Shared) (env : Env) (m : Loc) (e : Expr) (rest : List Expr) (T : String) (Q : AV → Hp → Prop) : AV → Hp → Prop := fun f hp₁ => f = .ty T ∧ EVS (model PW W0) B0 E A env (e :: rest) m hp₁ fun vs hp₂ => CL (model PW W0) B0 E A env (.type T) m vs hp₂ Q
theorem Zc0 {func e : Expr} {rest : List Expr} {pos} {T : String} {Q : AV → Hp → Prop}
    (h : EV (model PW W0) B0 E A env func m hp (Zi9 PW W0 A E B0 env m e rest T Q))
    (hc : eval (.Call func (e :: rest) [] pos) env = (do callWith pos (← eval func env) [] (backTo pos (starEach (e :: rest) env)) (backToKw pos (keywordEach [] env))) := by rfl)
    (he : starEach (e :: rest) env = (false, eval e env) :: starEach rest env := by rfl) (hplain : (backTo pos (starEach rest env)).any (·.1) = false := by rfl) :
    EV (model PW W0) B0 E A env (.Call func (e :: rest) [] pos) m hp Q := fun s r => by
  refine Call_ (h.use r fun u s₁ f hp₁ r₁ le₁ hu yq => ?_) hc
  obtain ⟨hf, q⟩ := yq
  subst hf; simp only [VR] at hu; subst hu
  refine PyProof.Rows.callWith_type1 (Zc3 (q pos s₁ r₁) fun vs s₂ avs hp₂ r₂ le₂ hv q => ?_) he hplain
  exact useV (q s₂ vs r₂ hv) fun v s₃ av hp₃ r₃ le₃ hv q => mkV r₃ ((le₁.trans le₂).trans le₃) hv q
noncomputable def RangeOb (ob : Obj) (a b : Int) : Prop := ∃ t u v, ob = { cls := .type "range", dict := none, data := .fields #[.int a t, .int b u, .int 1 v], slots := #[] }
theorem RangeOb.notImm {ob : Obj} {a b : Int} (h : RangeOb ob a b) : ¬ Imm ob := by obtain ⟨t, u, v, rfl⟩ := h; rintro ⟨_, _, _, e⟩; cases e
theorem Zeu {n : Int} {Q : AV → Hp → Prop} (h : ∀ r ob, hp r = none → r ≠ env.locals → RangeOb ob 0 n → Q (.ref r) (hp.set r (.obj ob))) : CL (model PW W0) B0 E A env (.type "range") m [.int n] hp Q := fun s vs r hv => by
  obtain ⟨v, rfl, h1⟩ := Zbo hv
  simp only [VR] at h1; obtain ⟨t, rfl⟩ := h1
  refine call_range_1 ?_
  have ro : RangeOb { cls := .type "range", dict := none, data := .fields #[.int 0 s.toks, .int n t, .int 1 (s.toks + 1)], slots := #[] } 0 n := ⟨_, _, _, rfl⟩
  have x := r.newAt { cls := .type "range", data := .fields #[.int 0 s.toks, .int n t, .int 1 (s.toks + 1)] } (.obj _) ⟨Heap.get?_push_size _ rfl, ro.notImm⟩
  exact mkV (av := .ref _) (x.1.toks _) x.2.2.2 VR_ref (h _ _ x.2.1 x.2.2.1 ro)
theorem Zet {a b : Int} {Q : AV → Hp → Prop} (h : ∀ r ob, hp r = none → r ≠ env.locals → RangeOb ob a b → Q (.ref r) (hp.set r (.obj ob))) : CL (model PW W0) B0 E A env (.type "range") m [.int a, .int b] hp Q := fun s vs r hv => by
  obtain ⟨v, u, rfl, h1, h2⟩ := Zc7 hv
  simp only [VR] at h1 h2; obtain ⟨t, rfl⟩ := h1; obtain ⟨t', rfl⟩ := h2
  refine call_range_2 ?_
  have ro : RangeOb { cls := .type "range", dict := none, data := .fields #[.int a t, .int b t', .int 1 s.toks], slots := #[] } a b := ⟨_, _, _, rfl⟩
  have x := r.newAt { cls := .type "range", data := .fields #[.int a t, .int b t', .int 1 s.toks] } (.obj _) ⟨Heap.get?_push_size _ rfl, ro.notImm⟩
  exact mkV (av := .ref _) (x.1.toks _) x.2.2.2 VR_ref (h _ _ x.2.1 x.2.2.1 ro)
theorem Zlo {target iter : Expr} {body : List Stmt} {pos} {Q : AF → Loc → Hp → Prop} (hh : A.handled = none)
    (h : EV (model PW W0) B0 E A env iter m hp fun o hp₁ => ∃ rg ob a b, o = .ref rg ∧ hp₁ rg = some (.obj ob) ∧ rg ≠ env.locals ∧ RangeOb ob a b ∧ -(2 ^ 62) ≤ a ∧ a < 2 ^ 62 ∧ -(2 ^ 62) ≤ b ∧ b < 2 ^ 62 ∧ ∀ it, hp₁ it = none → it ≠ env.locals → ∃ I : Nat → Loc → Hp → Prop,
      (∀ ob, I 0 m (hp₁.set it (.obj ob))) ∧ (∀ i m₂ hp₂ ob, I i m₂ hp₂ → I i m₂ (hp₂.set it (.obj ob))) ∧
      (∀ i m₂ hp₂ ob, i < (b - a).toNat → I i m₂ hp₂ → hp₂ it = some (.obj ob) → ASG (model PW W0) B0 (fun _ _ => False) A env target (.int (a + i)) m₂ hp₂ fun m₃ hp₃ => EXs (model PW W0) B0 (fun _ _ => False) A env body m₃ hp₃ fun fl m₄ hp₄ =>
        match fl with | .next | .cont => I (i + 1) m₄ hp₄ ∧ hp₄ it = some (.obj ob) | .brk => Q .next m₄ hp₄ | .ret v => Q (.ret v) m₄ hp₄) ∧
      (∀ m₂ hp₂, I (b - a).toNat m₂ hp₂ → Q .next m₂ (hp₂.del it)))
    (hs : ∀ x, foldedSetIterable iter env x = pure x := by intro _; rfl) :
    EX (model PW W0) B0 E A env (.For target iter body [] pos) m hp Q := fun s r => by
  refine wpAny_For (h.use r fun u s₁ o hp₁ r₁ le₁ hu x => ?_) hs
  refine hide fun Gq kq => ?_
  obtain ⟨rg, ob, a, b, rfl, hrg, hrL, ⟨t, u', v', rfl⟩, ha, ha', hb, hb', x⟩ := x
  refine kq ?_; clear kq Gq
  simp only [VR] at hu; subst hu
  have hro := (r₁.at hrg hrL).1
  refine wpAny_pyIter_range hro (small_one ha ha' hb hb') ?_
  refine hide fun Gq kq => ?_
  have n := r₁.newAt { cls := .type "range_iterator", data := .fields #[rawInt a, rawInt (Builtin.Range.rangeSize a b 1), rawInt 1] } (.obj { cls := .type "range_iterator", data := .fields #[rawInt a, rawInt (Builtin.Range.rangeSize a b 1), rawInt 1] }) ⟨Heap.get?_push_size _ rfl, fun i => by obtain ⟨_, _, _, e⟩ := i; cases e⟩
  obtain ⟨I, h0, hset, turn, fin⟩ := x _ n.2.1 n.2.2.1
  refine kq ?_; clear kq Gq
  have hsz : Builtin.Range.rangeSize a b 1 = ((b - a).toNat : Int) := by rw [rangeSize_one]; split <;> lia
  refine Zik (n := (b - a).toNat) (el := fun i => .int (a + i)) (st := fun i ob => ob = { cls := .type "range_iterator", dict := none, data := .fields #[rawInt (a + i), rawInt ((b - a).toNat - i), rawInt 1], slots := #[] }) (I := I) (Q := Q) (s₀ := s) n.2.2.1 (fun i ob x i' => by obtain ⟨_, _, _, e⟩ := i'; rw [x] at e; cases e)
    (fun i m₂ hp₂ s' ob hi hI hob hst r' E' W k => ?_) (fun m₂ hp₂ s' ob hI hob hst r' E' W k => ?_) hset turn fin
    (fun fl af m' hp' s' r' le' hf q => mkX (af := af) r' le' hf q) (h0 _) (Hp.ss ..) (by rw [hsz]; simp) n.1 (le₁.trans n.2.2.2) (fun _ _ x => ⟨"range_iterator", congrArg Obj.cls x, rfl⟩)
  · subst hst
    have hg : s'.heap.get? s₁.heap.objs.size = some _ := (r'.at hob n.2.2.1).1
    refine wpAny_pyNext_range_item (x := a + i) (left := (b - a).toNat - i) (step := 1) hg (by lia) fun h' hit' hs' => ?_
    exact k _ h' _ _ VR_int hit' (by
      have e1 : a + (i : Int) + 1 = a + ((i + 1 : Nat) : Int) := by push_cast; lia
      have e2 : (((b - a).toNat : Int) - i - 1) = ((b - a).toNat - ((i + 1 : Nat) : Int)) := by push_cast; lia
      rw [e1, e2]) hs'
  · subst hst
    have hg : s'.heap.get? s₁.heap.objs.size = some _ := (r'.at hob n.2.2.1).1
    exact wpAny_pyNext_range_end hh (x := a + (b - a).toNat) (left := (b - a).toNat - (b - a).toNat) (step := 1) hg (by lia) fun h' he => k h' s'.toks he
end
mutual
inductive RD (B0 : Shared) (hp : Hp) (L : Addr) : AV → PyData → Prop
  | none : RD B0 hp L .none .none
  | bool (b) : RD B0 hp L (.bool b) (.bool b)
  | int (i) : RD B0 hp L (.int i) (.int i)
  | str (x) : RD B0 hp L (.str x) (.str x)
  | tup {xs ds} : RDs B0 hp L xs ds → RD B0 hp L (.tup xs) (.tuple ds)
  | list {a xs ds} : Lst B0 hp L a xs → RDs B0 hp L xs ds → RD B0 hp L (.ref a) (.list ds)
inductive RDs (B0 : Shared) (hp : Hp) (L : Addr) : List AV → List PyData → Prop
  | nil : RDs B0 hp L [] []
  | cons {x xs d ds} : RD B0 hp L x d → RDs B0 hp L xs ds → RDs B0 hp L (x :: xs) (d :: ds)
end
section
variable {A : Around} {E : Value → Shared → Prop} {env : Env} {m : Loc} {hp : Hp} {K : Frag}
mutual
theorem RD.reads {s : Shared} (r : Rel B0 (hp.set env.locals (.ns m)) s) {x : AV} {d : PyData} {v : Value} (h : RD B0 hp env.locals x d) (hv : VR s.heap x v) : ∃ as, Reads s.heap v d as := by
  cases h with
  | none => simp only [VR] at hv; subst hv; exact ⟨_, .none⟩
  | bool b => simp only [VR] at hv; subst hv; exact ⟨_, .bool b⟩
  | int i => simp only [VR] at hv; obtain ⟨t, rfl⟩ := hv; exact ⟨_, .int i t⟩
  | str x => simp only [VR] at hv; obtain ⟨t, rfl⟩ := hv; exact ⟨_, .str x t⟩
  | tup h =>
    refine hide fun Gq kq => ?_
    simp only [VR] at hv
    obtain ⟨a, vs, rfl, ⟨o, ho, hc, n, hd⟩, hvs⟩ := hv
    obtain ⟨as, ra⟩ := RDs.reads r h hvs
    refine kq ?_; clear kq Gq
    exact ⟨_, .tuple ho hc hd ra⟩
  | list hl h =>
    refine hide fun Gq kq => ?_
    simp only [VR] at hv; subst hv
    obtain ⟨vs, ⟨o, ho, hc, n, hd⟩, hvs⟩ := r.lst hl
    obtain ⟨as, ra⟩ := RDs.reads r h hvs
    refine kq ?_; clear kq Gq
    exact ⟨_, .list ho hc hd ra⟩
theorem RDs.reads {s : Shared} (r : Rel B0 (hp.set env.locals (.ns m)) s) {xs : List AV} {ds : List PyData} {vs : List Value} (h : RDs B0 hp env.locals xs ds) (hv : VRs s.heap xs vs) : ∃ as, ReadsAll s.heap vs ds as := by
  cases h with
  | nil => simp only [VRs] at hv; subst hv; exact ⟨_, .nil⟩
  | cons h1 h2 =>
    refine hide fun Gq kq => ?_
    simp only [VRs] at hv
    obtain ⟨v, r', rfl, e1, e2⟩ := hv
    obtain ⟨as, ra⟩ := RD.reads r h1 e1
    obtain ⟨bs, rb⟩ := RDs.reads r h2 e2
    refine kq ?_; clear kq Gq
    exact ⟨_, .cons ra rb⟩
end
theorem Zqu {a b : AV} {da db : PyData} {Q : AV → Hp → Prop} (ha : RD B0 hp env.locals a da) (hb : RD B0 hp env.locals b db) (sa : SeqAt.shaped da = true) (sb : SeqAt.shaped db = true) (hu : A.units + 64 < cLine) (h : Q (.bool (PyData.eqv da db)) hp) :
    OP2 (model PW W0) B0 E A env (compareOp .Eq) m a b hp Q := fun s u v r hu' hv => by
  obtain ⟨as, ra⟩ := ha.reads r hu'
  obtain ⟨bs, rb⟩ := hb.reads r hv
  exact SeqAt.compareEq_shaped ra rb sa sb hu ⟨_, hp, r, .refl _, VR_bool, h⟩
theorem Zih {a b : AV} {da db : PyData} {Q : AV → Hp → Prop} (ha : RD B0 hp env.locals a da) (hb : RD B0 hp env.locals b db) (sa : SeqAt.shaped da = true) (sb : SeqAt.shaped db = true) (hu : A.units + 64 < cLine) (h : Q (.bool (!PyData.eqv da db)) hp) :
    OP2 (model PW W0) B0 E A env (compareOp .NotEq) m a b hp Q := fun s u v r hu' hv => by
  obtain ⟨as, ra⟩ := ha.reads r hu'
  obtain ⟨bs, rb⟩ := hb.reads r hv
  exact SeqAt.compareNe_shaped ra rb sa sb hu ⟨_, hp, r, .refl _, VR_bool, h⟩
theorem Zca {t b o : Expr} {pos} {Q : AV → Hp → Prop} (h : TST (model PW W0) B0 E A env t m hp fun c hp' => if c then EV (model PW W0) B0 E A env b m hp' Q else EV (model PW W0) B0 E A env o m hp' Q) : EV (model PW W0) B0 E A env (.IfExp t b o pos) m hp Q := fun s r => by
  refine wpAny_IfExp (useT (h s r) fun c s' hp' r' le q => ?_)
  cases c
  · exact useV (q s' r') fun v s'' av hp'' r'' le' hv q => mkV r'' (le.trans le') hv q
  · exact useV (q s' r') fun v s'' av hp'' r'' le' hv q => mkV r'' (le.trans le') hv q
theorem Zle {a b : Addr} {xs ys : List AV} {Q : AV → Hp → Prop} (ha : hp a = some (.list xs)) (hL : a ≠ env.locals) (hb : hp b = some (.list ys)) (hLb : b ≠ env.locals) (hsz : xs.length + ys.length ≤ sizeLine)
    (h : ∀ c, hp c = none → c ≠ env.locals → Q (.ref c) (hp.set c (.list (xs ++ ys)))) : OP2 (model PW W0) B0 E A env (binaryOp .Add) m (.ref a) (.ref b) hp Q := fun s u v r hu hv => by
  refine hide fun Gq kq => ?_
  simp only [VR] at hu hv; subst hu; subst hv
  obtain ⟨vs, n, hl, hvs⟩ := r.at ha hL
  obtain ⟨us, n', hl', hus⟩ := r.at hb hLb
  refine kq ?_; clear kq Gq
  have e1 : vs.size = xs.length := by rw [← Array.length_toList]; exact hvs.length
  have e2 : us.size = ys.length := by rw [← Array.length_toList]; exact hus.length
  refine PySem.P.add_list hl hl' ?_ (by lia)
  have le : ImmLe s.heap (s.heap.push { cls := .type "list", data := .seq (vs ++ us) }) := ImmLe.keep fun b o'' e => Heap.get?_push_of_some _ e
  have x := r.newAt { cls := .type "list", data := .seq (vs ++ us) } (.list (xs ++ ys)) ⟨_, 0, IsL.new _ _, by rw [Array.toList_append]; exact (hvs.mono le).append (hus.mono le)⟩
  exact mkV (av := .ref _) x.1 x.2.2.2 VR_ref (h _ x.2.1 x.2.2.1)
noncomputable abbrev Zng (env : Env) (Q : AV → Hp → Prop) : AV → Hp → Prop := fun l hp₁ => ∃ a xs v, l = .ref a ∧ hp₁ a = some (.list (xs ++ [v])) ∧ a ≠ env.locals ∧ xs.length < sizeLine ∧ Q v (hp₁.set a (.list xs))
theorem Zq3 {o : Expr} {apos pos} {pl : Sem Bool} {Q : AV → Hp → Prop}
    (h : EV (model PW W0) B0 E A env o m hp (Zng env Q))
    (hc : eval (.Call (.Attribute o (PySem.Str.ofString "pop") apos) [] [] pos) env = (do
      let ov ← eval o env
      standAt apos.atName
      let (f, first) ← holding [ov] (getMethod ov (PySem.Str.ofString "pop") pl)
      callWith pos f first (backTo pos (starEach [] env)) []) := by rfl) :
    EV (model PW W0) B0 E A env (.Call (.Attribute o (PySem.Str.ofString "pop") apos) [] [] pos) m hp Q := fun s r => by
  refine MethodCall_ (pl := pl) (h.use r fun u s₁ l hp₁ r₁ le₁ hu x => ?_) hc
  refine hide fun Gq kq => ?_
  obtain ⟨a, xs, v, rfl, ha, hL, hsz, q⟩ := x
  refine kq ?_; clear kq Gq
  simp only [VR] at hu; subst hu
  refine Zd2 F.slot_list_pop F.type_list_pop r₁ ha hL ?_
  refine hide fun Gq kq => ?_
  obtain ⟨us, n, hl, hus⟩ := r₁.at ha hL
  have e2 : us.size = xs.length + 1 := by rw [← Array.length_toList, hus.length]; simp
  obtain ⟨y, hy, hvy⟩ := hus.get (i := xs.length) (x := v) (by simp)
  refine kq ?_; clear kq Gq
  refine PySem.P.pop_list hl (by rw [e2]; simpa using hy) ?_ (by lia)
  have hs : Heap.SameBut a s₁.heap (s₁.heap.update a (Obj.mapSeq fun xs => xs.eraseIdxIfInBounds (us.size - 1))) := Heap.SameBut.update ..
  have hl' := hl.update fun xs => xs.eraseIdxIfInBounds (us.size - 1)
  have e3 : (us.eraseIdxIfInBounds (us.size - 1)).toList = us.toList.take xs.length := by
    rw [Array.eraseIdxIfInBounds, dif_pos (by lia), Array.toList_eraseIdx, List.eraseIdx_eq_take_drop_succ, e2, Nat.add_sub_cancel, List.drop_of_length_le (by rw [Array.length_toList]; lia), List.append_nil]
  have t := r₁.turn (a := a) (Hp.snt hL ha) hs (.list xs) (fun le => ⟨_, _, hl', by
    have := (hus.mono le).take xs.length
    rw [List.take_left' rfl] at this
    rw [e3]
    exact this⟩) s₁.toks
  rw [Hp.sc _ _ _ (Ne.symm hL)] at t
  exact mkV t.1 (le₁.trans t.2) (hvy.mono t.2) q
end
theorem Zf5 {a b : String} (h : PySem.Str.ofString a = PySem.Str.ofString b) : a = b := by
  rw [PySem.Str.ofString_eq_byList] at h
  unfold PySem.Str.ofStringByList at h
  have h1 : (a.toList.map Char.toNat).toArray = (b.toList.map Char.toNat).toArray := PySem.Str.mk.inj h
  have h2 : a.toList.map Char.toNat = b.toList.map Char.toNat := by simpa using h1
  apply String.toList_injective
  have inj : ∀ {x y : List Char}, x.map Char.toNat = y.map Char.toNat → x = y := by
    intro x
    induction x with
    | nil => intro y h; cases y with | nil => rfl | cons _ _ => simp at h
    | cons c x ih =>
      intro y h
      cases y with
      | nil => simp at h
      | cons d y =>
        simp only [List.map_cons, List.cons.injEq] at h
        rw [ih h.2]
        congr 1
        exact Char.toNat_inj.mp h.1
  exact inj h2
theorem ug (m : Loc) (a b : String) (v : AV) : upd m (PySem.Str.ofString a) v (PySem.Str.ofString b) = if b = a then some v else m (PySem.Str.ofString b) := by
  unfold upd
  by_cases h : b = a
  · simp [h]
  · have : PySem.Str.ofString b ≠ PySem.Str.ofString a := fun e => h (Zf5 e)
    simp [h, this]
theorem upT {m : Loc} {a : String} {v : AV} : upd m (S a) v (S a) = some v := by rw [ug, if_pos rfl]
theorem upN {m : Loc} {a b : String} {v : AV} {r : Option AV} (h : b ≠ a) (g : m (S b) = r) : upd m (S a) v (S b) = r := by rw [ug, if_neg h, g]
noncomputable def Hp.Le (hp hp' : Hp) : Prop := ∀ a o, hp a = some o → hp' a = some o
theorem Hp.Le.refl (hp : Hp) : Hp.Le hp hp := fun _ _ e => e
theorem Hp.Le.trans {a b c : Hp} (x : Hp.Le a b) (y : Hp.Le b c) : Hp.Le a c := fun p o e => y p o (x p o e)
theorem Hp.Le.set {hp hp' : Hp} (x : Hp.Le hp hp') {a : Addr} (h : hp a = none) (o : AO) : Hp.Le hp (hp'.set a o) := fun b ob e => by
  have : b ≠ a := fun e' => by rw [e', h] at e; cases e
  exact Hp.snt this (x b ob e)
theorem Hp.Le.del {hp hp' : Hp} (x : Hp.Le hp hp') {a : Addr} (h : hp a = none) : Hp.Le hp (hp'.del a) := fun b ob e => by
  have : b ≠ a := fun e' => by rw [e', h] at e; cases e
  simp only [Hp.del, this, if_false]; exact x b ob e
theorem Hp.Le.none {hp hp' : Hp} (x : Hp.Le hp hp') {a : Addr} (h : hp' a = none) : hp a = none := by
  cases e : hp a with
  | none => rfl
  | some o => rw [x a o e] at h; cases h
theorem Hp.del_ne (hp : Hp) {a b : Addr} (h : b ≠ a) : (hp.del a) b = hp b := by simp [Hp.del, h]
theorem Hp.ne_of {hp : Hp} {a b : Addr} {o : AO} (h : hp a = some o) (h' : hp b = none) : a ≠ b := fun e => by rw [e, h'] at h; cases h
theorem Lst.le {hp hp' : Hp} {L a : Addr} {xs : List AV} (x : Lst B0 hp L a xs) (le : Hp.Le hp hp') : Lst B0 hp' L a xs := by
  rcases x with ⟨h, hL⟩ | h
  · exact .inl ⟨le _ _ h, hL⟩
  · exact .inr h
theorem Lst.call {hp : Hp} {L L' a : Addr} {xs : List AV} {m : Loc} (x : Lst B0 hp L a xs) (hL' : hp L' = none) : Lst B0 (hp.set L (.ns m)) L' a xs := by
  rcases x with ⟨h, hL⟩ | h
  · exact .inl ⟨Hp.snt hL h, fun e => by rw [e, hL'] at h; cases h⟩
  · exact .inr h
section
variable {A : Around} {E : Value → Shared → Prop} {env : Env} {m : Loc} {hp : Hp} {K : Frag}
noncomputable abbrev Znh (Q : AV → Hp → Prop) : AV → Hp → Prop := fun v hp' => ∃ i, v = .int i ∧ Q (.int (-i)) hp'
theorem Zgx {x : Expr} {pos} {Q : AV → Hp → Prop} (h : EV (model PW W0) B0 E A env x m hp (Znh Q)) : EV (model PW W0) B0 E A env (.UnaryOp .USub x pos) m hp Q := fun s r => by
  refine wpAny_UnaryOp (h.use r fun u s₁ v hp₁ r₁ le₁ hu yq => ?_)
  obtain ⟨i, e, q⟩ := yq
  subst e
  simp only [VR] at hu; obtain ⟨t, rfl⟩ := hu
  exact PySem.P.neg_int ⟨_, hp₁, r₁.toks _, le₁, VR_int, q⟩
end
section
variable {M : Model} {A : Around} {E : Value → Shared → Prop} {env : Env} {m : Loc} {hp : Hp} {K : Frag}
theorem EV.mono {e : Expr} {Q Q' : AV → Hp → Prop} (h : EV M B0 E A env e m hp Q) (k : ∀ v hp', Q v hp' → Q' v hp') : EV M B0 E A env e m hp Q' := fun s r =>
  useV (h s r) fun _ _ av hp' r' le hv q => ⟨av, hp', r', le, hv, k _ _ q⟩
theorem EX.mono {st : Stmt} {Q Q' : AF → Loc → Hp → Prop} (h : EX M B0 E A env st m hp Q) (k : ∀ f m' hp', Q f m' hp' → Q' f m' hp') : EX M B0 E A env st m hp Q' := fun s r =>
  useX (h s r) fun _ _ af m' hp' r' le hv q => ⟨af, m', hp', r', le, hv, k _ _ _ q⟩
theorem EXs.mono {st : List Stmt} {Q Q' : AF → Loc → Hp → Prop} (h : EXs M B0 E A env st m hp Q) (k : ∀ f m' hp', Q f m' hp' → Q' f m' hp') : EXs M B0 E A env st m hp Q' := fun s r =>
  useX (h s r) fun _ _ af m' hp' r' le hv q => ⟨af, m', hp', r', le, hv, k _ _ _ q⟩
theorem Zln {st : Stmt} {rest : List Stmt} {Q : AF → Loc → Hp → Prop} (Mid : Loc → Hp → Prop) (h1 : EX M B0 E A env st m hp fun f m' hp' => f = .next ∧ Mid m' hp') (h2 : ∀ m' hp', Mid m' hp' → EXs M B0 E A env rest m' hp' Q) :
    EXs M B0 E A env (st :: rest) m hp Q := Zac (h1.mono fun f m' hp' ⟨e, x⟩ => by subst e; exact h2 m' hp' x)
end
theorem sz {n : Nat} (h : Nat.ble n 1000 = true) : n ≤ sizeLine := by
  have := sizeLine_eq; have := Nat.le_of_ble_eq_true h; (exact Nat.le_trans (by assumption) (by decide))
theorem sz' {n : Nat} (h : n ≤ 5000) : n ≤ sizeLine := by
  have := sizeLine_eq; (exact Nat.le_trans (by assumption) (by decide))
section
variable {A : Around} {E : Value → Shared → Prop} {env : Env} {m : Loc} {hp : Hp} {K : Frag}
structure Ins (hp : Hp) (L x dx C : Addr) (ma : Loc) : Prop where
  ob : hp x = some (.obj (instObj C dx))
  at_ : hp dx = some (.atr ma)
  xL : x ≠ L
  dL : dx ≠ L
theorem Ins.le {hp' : Hp} {L x dx C : Addr} {ma : Loc} (I : Ins hp L x dx C ma) (le : Hp.Le hp hp') : Ins hp' L x dx C ma := ⟨le _ _ I.ob, le _ _ I.at_, I.xL, I.dL⟩
theorem Ins.xd {L x dx C : Addr} {ma : Loc} (I : Ins hp L x dx C ma) : x ≠ dx := fun e => by have := I.ob; rw [e, I.at_] at this; cases this
theorem Zkc {o : Obj} {es : Array DictEntry} {ep : Nat} {mv : PySem.Str → Option Value} (hd : o.data = .dict es ep) (hk : StrKeys es) (hm : ∀ name, nsFind es name = mv name) (name : PySem.Str) : lookIn name o = some (mv name) := by
  unfold lookIn
  rw [hd, ← hm name]
  unfold nsFind findBy
  rw [← Array.find?_toList]
  dsimp only
  cases h : es.toList.find? (fun e => e.key.isStr name) with
  | some en => rfl
  | none =>
    have : es.toList.any (·.refKey) = false := by
      rw [List.any_eq_false]
      intro en hen
      obtain ⟨n, t, hn⟩ := hk en (by simpa using hen)
      unfold DictEntry.refKey
      rw [hn]; simp
    simp [this]
theorem Rel.ins {s : Shared} (r : Rel B0 (hp.set env.locals (.ns m)) s) {x dx C : Addr} {ma : Loc} (I : Ins hp env.locals x dx C ma) :
    ∃ od mv, InstAt s.heap x (instObj C dx) C (some od) ∧ s.heap.Ns1 dx mv ∧ LocR s.heap ma mv ∧ Within mv attrNames ∧ ∀ name, lookIn name od = some (mv name) := by
  refine hide fun Gq kq => ?_
  obtain ⟨h1, _⟩ := r.at I.ob I.xL
  obtain ⟨mv, hn, hm, hw⟩ := r.at I.at_ I.dL
  have hn' := hn
  obtain ⟨o, es, ep, ho, hd, hk, _, hf⟩ := hn'
  refine kq ?_; clear kq Gq
  exact ⟨o, mv, ⟨h1, rfl, rfl, ho⟩, hn, hm, hw, Zkc hd hk hf⟩
structure Cls (K : Frag) (C : Addr) : Prop where
  ga : findIn K (.ref C) "__getattribute__" = some (some (.builtin "object.__getattribute__"))
  gk : findIn K (.ref C) "__getattr__" = some none
  hd : (clsIn K C).any (·.hasDict) = true
  sa : findIn K (.ref C) "__setattr__" = some (some (.builtin "object.__setattr__"))
  po : plainOver K C = true
theorem Zk7 {h : Heap} {a : AV} {v : Value} (hv : VR h a v) (hb : ∀ n, a ≠ .bi n) : handedIn v = true := by
  cases a with
  | bi n => exact absurd rfl (hb n)
  | none => simp only [VR] at hv; subst hv; rfl
  | bool _ => simp only [VR] at hv; subst hv; rfl
  | int _ => simp only [VR] at hv; obtain ⟨_, rfl⟩ := hv; rfl
  | str _ => simp only [VR] at hv; obtain ⟨_, rfl⟩ := hv; rfl
  | flt _ => simp only [VR] at hv; obtain ⟨_, rfl⟩ := hv; rfl
  | ref _ => simp only [VR] at hv; subst hv; rfl
  | ty _ => simp only [VR] at hv; subst hv; rfl
  | tup _ => simp only [VR] at hv; obtain ⟨_, _, rfl, _⟩ := hv; rfl
  | mat _ => simp only [VR] at hv; obtain ⟨_, _, rfl, _⟩ := hv; rfl
noncomputable abbrev Zlk (env : Env) (name : PySem.Str) (C : Addr) (Q : AV → Hp → Prop) : AV → Hp → Prop := fun v hp₁ => ∃ x dx ma u, v = .ref x ∧ Ins hp₁ env.locals x dx C ma ∧ ma name = some u ∧ (∀ n, u ≠ .bi n) ∧ Q u hp₁
theorem Zpb {o : Expr} {name : PySem.Str} {pos} {C : Addr} {Q : AV → Hp → Prop} (G : Gnd K B0) (P : Cls K C) (hno : findIn K (.ref C) name = some none)
    (h : EV (model PW W0) B0 E A env o m hp (Zlk env name C Q))
    (he : eval (.Attribute o name pos) env = (do
      let ov ← eval o env
      standAt pos.atName
      let r ← holding [ov] (getAttr ov name true)
      letTemporaryGo o ov r
      pure r) := by with_unfolding_all rfl) (ht : ∀ ov r, letTemporaryGo o ov r = pure () := by intro _ _; rfl) :
    EV (model PW W0) B0 E A env (.Attribute o name pos) m hp Q := fun s r => by
  rw [he]
  refine wpAny_bind (h.use r fun v s₁ av hp₁ r₁ le₁ hv x => wpAny_bind (wpAny_standAt (wpAny_bind (wpAny_holding ?_))))
  refine hide fun Gq kq => ?_
  obtain ⟨x, dx, ma, u, rfl, I, hu, hb, q⟩ := x
  simp only [VR] at hv; subst hv
  obtain ⟨od, mv, IA, hn, hm, hw, hl⟩ := r₁.ins I
  obtain ⟨uv, huv, hvr⟩ := hm.1 name u hu
  obtain ⟨cd, hc, hd⟩ := any_some P.hd
  refine kq ?_; clear kq Gq
  have hf : findObj K C (some od) name = some (.value uv) := by
    unfold findObj
    rw [hc, Option.bind_some, hno]
    simp only [Option.bind_some, W.ownOf, hd, if_true, hl, huv]
  refine get_value (G.X.keeps r₁.keep) IA P.ga hf (Zk7 hvr hb) ?_
  refine wpAny_bind ?_
  rw [ht]
  exact wpAny_pure (wpAny_pure (mkV (r₁.toks _) le₁ hvr q))
noncomputable abbrev Zlj (PW : Program) (W0 : World) (A : Around) (E : Value → Shared → Prop) (B0 : Shared) (env : Env) (m : Loc) (e : Expr) (name : PySem.Str) (rest : List Expr) (C : Addr) (f : Addr) (Q : AV → Hp → Prop) : AV → Hp → Prop := fun v hp₁ => ∃ x dx ma, v = .ref x ∧ Ins hp₁ env.locals x dx C ma ∧ ma name = none ∧ EVS (model PW W0) B0 E A env (e :: rest) m hp₁ fun vs hp₂ => CL (model PW W0) B0 E A env (.ref f) m (.ref x :: vs) hp₂ Q
theorem Zep {o e : Expr} {name : PySem.Str} {rest : List Expr} {apos pos} {pl : Sem Bool} {C f : Addr} {Q : AV → Hp → Prop} (G : Gnd K B0) (P : Cls K C) (hf : findIn K (.ref C) name = some (some (.ref f))) (ht : typeIn K (.ref f) = some (.type "function")) (hk : keepIn K (.ref f) = true)
    (h : EV (model PW W0) B0 E A env o m hp (Zlj PW W0 A E B0 env m e name rest C f Q))
    (hc : eval (.Call (.Attribute o name apos) (e :: rest) [] pos) env = (do
      let ov ← eval o env
      standAt apos.atName
      let (f, first) ← holding [ov] (getMethod ov name pl)
      callWith pos f first (backTo pos (starEach (e :: rest) env)) []) := by rfl)
    (he : starEach (e :: rest) env = (false, eval e env) :: starEach rest env := by rfl) (hplain : (backTo pos (starEach rest env)).any (·.1) = false := by rfl) :
    EV (model PW W0) B0 E A env (.Call (.Attribute o name apos) (e :: rest) [] pos) m hp Q := fun s r => by
  refine MethodCall_ (pl := pl) (h.use r fun u s₁ l hp₁ r₁ le₁ hu x => ?_) hc
  refine hide fun Gq kq => ?_
  obtain ⟨x, dx, ma, rfl, I, hno, q⟩ := x
  simp only [VR] at hu; subst hu
  obtain ⟨od, mv, IA, hn, hm, hw, hl⟩ := r₁.ins I
  refine kq ?_; clear kq Gq
  refine method_fn (G.X.keeps r₁.keep) IA P.ga P.gk hf ht (by unfold shadowIn; simp [hl, hm.2 name hno]) ?_
  refine callWith_K (K := K) G.X hk (Zc3 (q pos s₁ r₁) fun vs s₂ avs hp₂ r₂ le₂ hv q => ?_) he hplain
  refine ⟨G.X.keeps r₂.keep, ?_⟩
  refine useV (q s₂ (.ref x :: vs) r₂ (by simp only [VRs]; exact ⟨_, _, rfl, VR_ref, hv⟩)) fun v s₃ av hp₃ r₃ le₃ hv q => mkV r₃ ((le₁.trans le₂).trans le₃) hv q
noncomputable abbrev Zi5 (PW : Program) (W0 : World) (A : Around) (E : Value → Shared → Prop) (B0 : Shared) (env : Env) (m : Loc) (name : PySem.Str) (C : Addr) (f : Addr) (Q : AV → Hp → Prop) : AV → Hp → Prop := fun v hp₁ => ∃ x dx ma, v = .ref x ∧ Ins hp₁ env.locals x dx C ma ∧ ma name = none ∧ CL (model PW W0) B0 E A env (.ref f) m [.ref x] hp₁ Q
theorem Zfy {o : Expr} {name : PySem.Str} {apos pos} {pl : Sem Bool} {C f : Addr} {Q : AV → Hp → Prop} (G : Gnd K B0) (P : Cls K C) (hf : findIn K (.ref C) name = some (some (.ref f))) (ht : typeIn K (.ref f) = some (.type "function")) (hk : keepIn K (.ref f) = true)
    (h : EV (model PW W0) B0 E A env o m hp (Zi5 PW W0 A E B0 env m name C f Q))
    (hc : eval (.Call (.Attribute o name apos) [] [] pos) env = (do
      let ov ← eval o env
      standAt apos.atName
      let (f, first) ← holding [ov] (getMethod ov name pl)
      callWith pos f first (backTo pos (starEach [] env)) []) := by rfl) :
    EV (model PW W0) B0 E A env (.Call (.Attribute o name apos) [] [] pos) m hp Q := fun s r => by
  refine MethodCall_ (pl := pl) (h.use r fun u s₁ l hp₁ r₁ le₁ hu x => ?_) hc
  refine hide fun Gq kq => ?_
  obtain ⟨x, dx, ma, rfl, I, hno, q⟩ := x
  simp only [VR] at hu; subst hu
  obtain ⟨od, mv, IA, hn, hm, hw, hl⟩ := r₁.ins I
  refine kq ?_; clear kq Gq
  refine method_fn (G.X.keeps r₁.keep) IA P.ga P.gk hf ht (by unfold shadowIn; simp [hl, hm.2 name hno]) ?_
  refine callWith_K0 (K := K) (G.X.keeps r₁.keep) hk ?_
  refine useV (q s₁ [.ref x] r₁ (VRs.one VR_ref)) fun v s₃ av hp₃ r₃ le₃ hv q => mkV r₃ (le₁.trans le₃) hv q
noncomputable abbrev Zjf (env : Env) (m : Loc) (name : PySem.Str) (C : Addr) (u : AV) (Q : Loc → Hp → Prop) : AV → Hp → Prop := fun v hp₁ => ∃ x dx ma, v = .ref x ∧ Ins hp₁ env.locals x dx C ma ∧ Q m (hp₁.set dx (.atr (upd ma name u)))
theorem Znr {o : Expr} {name : PySem.Str} {pos} {C : Addr} {u : AV} {Q : Loc → Hp → Prop} (G : Gnd K B0) (P : Cls K C) (ht : takerIn K C name = some none) (ha : name ∈ attrNames)
    (h : EV (model PW W0) B0 E A env o m hp (Zjf env m name C u Q)) :
    ASG (model PW W0) B0 E A env (.Attribute o name pos) u m hp Q := fun s v r hv => by
  rw [assign_Attribute]
  refine wpAny_bind (wpAny_holding (h.use r fun ov s₁ av hp₁ r₁ le₁ hov x => wpAny_bind (wpAny_standAt (wpAny_bind (wpAny_holding ?_)))))
  refine hide fun Gq kq => ?_
  obtain ⟨x, dx, ma, rfl, I, q⟩ := x
  simp only [VR] at hov; subst hov
  obtain ⟨od, mv, IA, hn, hm, hw, hl⟩ := r₁.ins I
  refine kq ?_; clear kq Gq
  have hv₁ := hv.mono le₁
  have X := G.X.keeps r₁.keep
  refine set_plain X IA P.sa (osa_open (s := { s₁ with toks := s₁.toks + 1 }) X IA P.po ht fun b => ?_)
  refine hide fun Gq kq => ?_
  obtain ⟨cd, hc, hd⟩ := any_some P.hd
  refine kq ?_; clear kq Gq
  refine wpAny_bind (wpAny_pure (wpAny_bind (wpAny_bind (wpAny_loadPart IA.at_ (wpAny_bind (looks_clsIn X hc _ _ _ _ (fun _ _ e => e) ?_))))))
  rw [hd]
  refine wpAny_pure (a := some dx) (wpAny_bind (wpAny_pure (wpAny_bind (wpAny_nsSet1 (s := { s₁ with toks := s₁.toks + 1 }) hn fun h' hn' hs => ?_))))
  refine hide fun Gq kq => ?_
  have hw' : Within (fun x => if x = name then some v else mv x) attrNames := fun y hy => by
    by_cases e : y = name
    · rw [e]; exact ha
    · exact hw y (by simpa [e] using hy)
  obtain ⟨oD, esD, epD, hoD, hdD, hcD⟩ := hn'.count hw'
  refine kq ?_; clear kq Gq
  refine wpAny_bind (wpAny_lookBehind hoD (by rw [hdD]; exact pastItsLine_dict (Nat.le_trans hcD (by decide))) ?_)
  refine wpAny_pure ?_
  have t := r₁.turn (a := dx) (Hp.snt I.dL I.at_) hs (.atr (upd ma name u)) (fun le => ⟨_, hn', LocR.upd (hm.mono le) (hv₁.mono le), hw'⟩) (s₁.toks + 1 + 1)
  rw [Hp.sc _ _ _ (Ne.symm I.dL)] at t
  exact wpAny_release ⟨m, _, t.1, le₁.trans t.2, q⟩
end
section
variable {A : Around} {E : Value → Shared → Prop} {env : Env} {m : Loc} {hp : Hp} {K : Frag}
theorem Zpg {C fI : Addr} {avs : List AV} {Q : AV → Hp → Prop} (G : Gnd K B0) (hm : makesIn K C = true) (hi : findIn K (.ref C) "__init__" = some (some (.ref fI))) (hf : typeIn K (.ref fI) = some (.type "function"))
    (h : ∀ x dx vs, hp x = none → hp dx = none → x ≠ dx → x ≠ env.locals → dx ≠ env.locals →
      CD (model PW W0) B0 E (A.under (.builtin "type.__call__" ⟨.ref C :: vs, []⟩)) env (.ref fI) m (.ref x :: avs) ((hp.set dx (.atr fun _ => none)).set x (.obj (instObj C dx))) fun v hp' => v = .none ∧ Q (.ref x) hp') :
    CL (model PW W0) B0 E A env (.ref C) m avs hp Q := fun s vs r hv => by
  refine wpAny_call ?_
  refine hide fun Gq kq => ?_
  have n1 := r.newAt emptyDict (.atr fun _ => none) ⟨fun _ => none, Heap.Ns1.of_empty (Heap.Ns.new s.heap (.type "dict")), ⟨fun x v e => by simp at e, fun x _ => rfl⟩, fun y hy => absurd rfl hy⟩
  have n2 := Rel.newAt n1.1 (instObj C s.heap.objs.size) (.obj (instObj C s.heap.objs.size)) ⟨Heap.get?_push_size _ rfl, fun i => by obtain ⟨_, xs, n, e⟩ := i; cases e⟩
  have hsz : (s.heap.push emptyDict).objs.size = s.heap.objs.size + 1 := Heap.size_push ..
  simp only [hsz] at n2
  have hx0 : hp (s.heap.objs.size + 1) = none := by
    have := n2.2.1
    rw [Hp.sn _ _ (Nat.succ_ne_self _)] at this
    exact this
  have hh := h (s.heap.objs.size + 1) s.heap.objs.size vs hx0 n1.2.1 (Nat.succ_ne_self _) n2.2.2.1 n1.2.2.1
  obtain ⟨heap, g, d, t, os⟩ := s
  refine kq ?_; clear kq Gq
  refine make_core (makes_of (G.X.keeps r.keep) hm) (looks_findIn (G.X.keeps r.keep) hi) (fun self => bind_fn (G.X.keeps r.keep) self hf) (.inl rfl) ?_
  refine codeAny_mono (hh _ (.ref (heap.objs.size + 1) :: vs) n2.1 (by simp only [VRs]; exact ⟨_, _, rfl, VR_ref, hv.mono (n1.2.2.2.trans n2.2.2.2)⟩)) fun r s' z => ?_
  rcases r with e | (v | _ | _ | _) <;> first | exact z | exact z.elim | skip
  refine hide fun Gq kq => ?_
  obtain ⟨av, hp', r', le', hv', rfl, q⟩ := z
  refine kq ?_; clear kq Gq
  simp only [VR] at hv'; subst hv'
  exact ⟨rfl, .ref (heap.objs.size + 1), hp', r', (n1.2.2.2.trans n2.2.2.2).trans le', VR_ref, q⟩
noncomputable abbrev Zja (PW : Program) (W0 : World) (A : Around) (E : Value → Shared → Prop) (B0 : Shared) (env : Env) (m : Loc) (e : Expr) (rest : List Expr) (f : Addr) (Q : AV → Hp → Prop) : AV → Hp → Prop := fun v hp₁ => v = .ref f ∧ EVS (model PW W0) B0 E A env (e :: rest) m hp₁ fun vs hp₂ => CL (model PW W0) B0 E A env (.ref f) m vs hp₂ Q
theorem Zno {func e : Expr} {rest : List Expr} {pos} {f : Addr} {Q : AV → Hp → Prop} (G : Gnd K B0) (hk : keepIn K (.ref f) = true)
    (h : EV (model PW W0) B0 E A env func m hp (Zja PW W0 A E B0 env m e rest f Q))
    (hc : eval (.Call func (e :: rest) [] pos) env = (do callWith pos (← eval func env) [] (backTo pos (starEach (e :: rest) env)) (backToKw pos (keywordEach [] env))) := by rfl)
    (he : starEach (e :: rest) env = (false, eval e env) :: starEach rest env := by rfl) (hplain : (backTo pos (starEach rest env)).any (·.1) = false := by rfl) :
    EV (model PW W0) B0 E A env (.Call func (e :: rest) [] pos) m hp Q := fun s r => by
  refine Call_ (h.use r fun u s₁ v hp₁ r₁ le₁ hu yq => ?_) hc
  obtain ⟨hf, q⟩ := yq
  subst hf; simp only [VR] at hu; subst hu
  refine callWith_K (K := K) G.X hk (Zc3 (q pos s₁ r₁) fun vs s₂ avs hp₂ r₂ le₂ hv q => ⟨G.X.keeps r₂.keep, ?_⟩) he hplain
  exact useV (q s₂ vs r₂ hv) fun v s₃ av hp₃ r₃ le₃ hv q => mkV r₃ ((le₁.trans le₂).trans le₃) hv q
theorem Zm8 {Q : Bool → Hp → Prop} (h : Q false hp) : TRU (model PW W0) B0 E A env m .none hp Q := fun s u r hu => by
  simp only [VR] at hu; subst hu
  exact PyProof.Rows.truthy_none ⟨hp, r, .refl _, h⟩
theorem Rel.grown {s : Shared} (r : Rel B0 (hp.set env.locals (.ns m)) s) {h' : Heap} (k : ∀ b o, s.heap.get? b = some o → h'.get? b = some o) (t : Nat) : Rel B0 (hp.set env.locals (.ns m)) { s with heap := h', toks := t } ∧ ImmLe s.heap h' := by
  refine ⟨⟨fun b o e => k b o (r.keep b o e), fun a o e => ⟨(r.objs a o e).1, (r.objs a o e).2.here (ImmLe.keep k) fun o' e' => k _ _ e'⟩, r.os, r.bare, ?_⟩, ImmLe.keep k⟩
  obtain ⟨h1, h2⟩ := r.objs env.locals _ (Hp.ss ..)
  obtain ⟨ob, hob⟩ := h2.ex
  exact Nat.le_trans h1 (Nat.le_of_lt (Heap.lt_size (k _ _ hob)))
end
noncomputable def RET (L : Addr) (env : Env) (m : Loc) (Q : AV → Hp → Prop) : AF → Loc → Hp → Prop := fun fl _ hp' => ∃ hp₂ : Hp, Hp.Le (hp₂.set env.locals (.ns m)) hp' ∧ hp₂ L = none ∧ Q (Zfe fl) hp₂
theorem Ins.call {hp : Hp} {L L' x dx C : Addr} {ma m : Loc} (I : Ins hp L x dx C ma) (h : hp L' = none) : Ins (hp.set L (.ns m)) L' x dx C ma :=
  ⟨Hp.snt I.xL I.ob, Hp.snt I.dL I.at_, Hp.ne_of I.ob h, Hp.ne_of I.at_ h⟩
theorem Ins.put {hp : Hp} {L x dx C : Addr} {ma ma' : Loc} (I : Ins hp L x dx C ma) : Ins (hp.set dx (.atr ma')) L x dx C ma' :=
  ⟨Hp.snt I.xd I.ob, Hp.ss .., I.xL, I.dL⟩
theorem Lst.put {hp : Hp} {L a b : Addr} {xs : List AV} {o : AO} (x : Lst B0 hp L a xs) (h : ∀ ys, hp b ≠ some (.list ys)) : Lst B0 (hp.set b o) L a xs := by
  rcases x with ⟨e, hL⟩ | e
  · exact .inl ⟨Hp.snt (fun e' => by subst e'; exact h _ e) e, hL⟩
  · exact .inr e
section
variable {A : Around} {E : Value → Shared → Prop} {env : Env} {m : Loc} {hp : Hp} {K : Frag}
theorem Ze0 {f : Addr} {fd : FuncData} {body : List Stmt} {avs : List AV} {bs : List (PySem.Str × AV)} {Q : AV → Hp → Prop} (G : Gnd K B0) (ho : K.lookup f = some ⟨.type "function", none, .func fd, #[]⟩) (hcd : codeIn K fd.code fd.qualname = true)
    (hbody : fd.body = .stmts body) (hroom : A.depth < recursionLimit)
    (hbind : ∀ s vs, VRs s.heap avs vs → (∀ b o, B0.heap.get? b = some o → s.heap.get? b = some o) → ∃ us : List (PySem.Str × Value), BindsTo s fd ⟨vs, []⟩ us ∧ us.reverse.map (·.1) = bs.map (·.1) ∧ VRs s.heap (bs.map (·.2)) (us.reverse.map (·.2)))
    (hloc : bs.all (fun x => fd.scope.names.lookup x.1 == some .local) = true) (hcell : ∀ x ∈ fd.scope.names, x.2 ≠ .cell)
    (h : ∀ L, hp L = none → L ≠ env.locals → EXs (model PW W0) B0 (fun _ _ => False) (A.deeper (callEnv fd L f)) (callEnv fd L f) body (Za0 bs) (hp.set env.locals (.ns m)) (RET L env m Q))
    (hco : fd.scope.isCoroutine = false := by rfl) (hgen : fd.scope.isGenerator = false := by rfl) (hk : fd.scope.kind = .function := by rfl) :
    CD (model PW W0) B0 E A env (.ref f) m avs hp Q :=
  Zrb G ho rfl hcd hbody hroom hbind hloc hcell (fun L hL hLe => (h L hL hLe).mono fun fl m' hp' ⟨hp₂, le, hn, q⟩ => ⟨hp₂, fun a o e => ⟨le a o e, fun e' => by
    subst e'; rw [Hp.sn _ _ hLe, hn] at e; cases e⟩, q⟩) hco hgen hk
noncomputable abbrev Zgs (PW : Program) (W0 : World) (A : Around) (E : Value → Shared → Prop) (B0 : Shared) (env : Env) (m : Loc) (o : Expr) (name : PySem.Str) (Q : AF → Loc → Hp → Prop) (pos' : Pos) : AV → Hp → Prop := fun v hp₁ => ASG (model PW W0) B0 E A env (.Attribute o name pos') v m hp₁ fun m₂ hp₂ => Q .next m₂ hp₂
theorem Zb0 {o value : Expr} {name : PySem.Str} {pos' pos} {Q : AF → Loc → Hp → Prop}
    (h : EV (model PW W0) B0 E A env value m hp (Zgs PW W0 A E B0 env m o name Q pos'))
    (hs : swapsWith value (some (.Attribute o name pos')) pos.line env = pure false := by rfl) : EX (model PW W0) B0 E A env (.Assign [.Attribute o name pos'] value pos) m hp Q := fun s r => by
  rw [plainObj_exec_Assign_Attribute o name pos' value pos hs]
  refine wpAny_bind (wpAny_standAt (wpAny_bind (h.use r fun u s₁ v hp₁ r₁ le₁ hu q => wpAny_bind ?_)))
  exact useA (q s₁ u r₁ hu) fun _ s₂ m₂ hp₂ r₂ le₂ q => wpAny_pure (mkX (af := .next) r₂ (le₁.trans le₂) rfl q)
theorem Zdo {x : PySem.Str} {k p pos} {Q : AF → Loc → Hp → Prop} (h : Q .next m hp) (hi : interactive env = false := by rfl) (hs : swapsWith (.Constant (.str x) k p) none pos.line env = pure false := by rfl) :
    EX (model PW W0) B0 E A env (.Expr (.Constant (.str x) k p) pos) m hp Q := Za3 (Zbk ⟨by simp, by simp, by simp, h⟩) hi hs
theorem Zpv {L : Addr} {Q : AV → Hp → Prop} {fl : AF} {m' : Loc} {hp₂ hp' : Hp} (le : Hp.Le (hp₂.set env.locals (.ns m)) hp') (hn : hp₂ L = none) (q : Q (Zfe fl) hp₂) : RET L env m Q fl m' hp' := ⟨hp₂, le, hn, q⟩
theorem Zhu {L : Addr} {Q : AV → Hp → Prop} {fl : AF} {m' : Loc} (hL : hp L = none) (q : Q (Zfe fl) hp) : RET L env m Q fl m' (hp.set env.locals (.ns m)) := ⟨hp, .refl _, hL, q⟩
theorem Zoi {L dx : Addr} {o : AO} {Q : AV → Hp → Prop} {fl : AF} {m' : Loc} (hL : hp L = none) (hd : dx ≠ env.locals) (hdL : dx ≠ L) (q : Q (Zfe fl) (hp.set dx o)) : RET L env m Q fl m' ((hp.set env.locals (.ns m)).set dx o) :=
  ⟨hp.set dx o, by rw [Hp.sc _ _ _ hd]; exact .refl _, Hp.snt (Ne.symm hdL) hL, q⟩
end
section
variable {A : Around} {E : Value → Shared → Prop} {env : Env} {m : Loc} {hp : Hp} {K : Frag}
theorem ASG.mono {M : Model} {t : Expr} {x : AV} {Q Q' : Loc → Hp → Prop} (h : ASG M B0 E A env t x m hp Q) (k : ∀ m' hp', Q m' hp' → Q' m' hp') : ASG M B0 E A env t x m hp Q' := fun s v r hv =>
  useA (h s v r hv) fun _ _ m' hp' r' le q => mkA r' le (k _ _ q)
theorem Zo6 {x : PySem.Str} {Q : Bool → Hp → Prop} (hx : x.length < 1000) (h : Q (x.length != 0) hp) : TRU (model PW W0) B0 E A env m (.str x) hp Q := fun s u r hu => by
  simp only [VR] at hu; obtain ⟨t, rfl⟩ := hu
  refine PySem.P.truthy_str (by lia) ⟨hp, r.toks _, .refl _, ?_⟩
  have : ((x.length : Int) != 0) = (x.length != 0) := by
    generalize x.length = n
    cases n with
    | zero => rfl
    | succ n => rfl
  rw [this]; exact h
end
section
variable {A : Around} {env : Env} {m : Loc} {hp : Hp} {h0 : Heap} {hk : Hp} {S : Addr} {F : Hp → Prop} {n : Nat} {c : Code} {fs : List Frame} {K : Flow → Sem Fin} {H : Value → Sem Fin}
end
section
variable {A : Around} {env : Env} {m : Loc} {hp : Hp} {h0 : Heap} {hk : Hp} {S : Addr} {F : Hp → Prop} {n : Nat} {c : Code} {fs : List Frame} {K : Flow → Sem Fin} {H : Value → Sem Fin}
end
section
variable {A : Around} {E : Value → Shared → Prop} {env : Env} {m : Loc} {hp : Hp} {h0 : Heap} {hk : Hp} {L S : Addr} {F : Hp → Prop} {n : Nat}
end
section
variable {A : Around} {E : Value → Shared → Prop} {s : Shared} {R : Result → Shared → Prop}
end
section
variable {A : Around} {E : Value → Shared → Prop} {env : Env} {m : Loc} {hp : Hp} {K : Frag}
end
section
variable {A : Around} {E : Value → Shared → Prop} {env : Env} {m : Loc} {hp : Hp} {K : Frag}
end
section
variable {A : Around} {E : Value → Shared → Prop} {env : Env} {m : Loc} {hp : Hp} {K : Frag}
end
section
variable {A : Around} {E : Value → Shared → Prop} {s : Shared}
end
section
variable {A : Around} {E : Value → Shared → Prop} {env : Env} {m : Loc} {hp : Hp} {K : Frag}
end
section
variable {A : Around} {env : Env} {m : Loc} {hp : Hp} {h0 : Heap} {hk : Hp} {S : Addr} {F : Hp → Prop} {n : Nat} {c : Code} {fs : List Frame} {K : Flow → Sem PySem.Fin} {H : Value → Sem PySem.Fin}
end
theorem Zid {h : Heap} : ∀ {ns : List Int} {vs : List Value}, VRs h (ns.map .int) vs → ∃ xs : List (Int × Tok), vs = xs.map (fun p => .int p.1 p.2) ∧ xs.map (·.1) = ns
  | [], vs, e => by simp only [List.map_nil, VRs] at e; exact ⟨[], e, rfl⟩
  | n :: ns, vs, e => by
    simp only [List.map_cons, VRs, VR] at e
    obtain ⟨v, r, rfl, ⟨t, rfl⟩, e3⟩ := e
    obtain ⟨xs, rfl, rfl⟩ := Zid e3
    exact ⟨(n, t) :: xs, rfl, rfl⟩
section
variable {A : Around} {E : Value → Shared → Prop} {env : Env} {m : Loc} {hp : Hp} {K : Frag}
noncomputable def TSTs (M : Model) (B0 : Shared) (E : Value → Shared → Prop) (A : Around) (env : Env) (ifs : List Expr) (m : Loc) (hp : Hp) (Q : Bool → Hp → Prop) : Prop :=
  ∀ s, Rel B0 (hp.set env.locals (.ns m)) s → wpAny M A (forIn ifs true fun c r => if r = true then do let ok ← isTrue c env (eval c env); pure (ForInStep.yield ok) else pure (ForInStep.yield r)) (fun b s' => ∃ hp', Rel B0 (hp'.set env.locals (.ns m)) s' ∧ ImmLe s.heap s'.heap ∧ Q b hp') E s
theorem Zfu {Q : Bool → Hp → Prop} (h : Q true hp) : TSTs (model PW W0) B0 E A env [] m hp Q := fun s r => wpAny_tests_nil ⟨hp, r, .refl _, h⟩
theorem Zif {c : Expr} {Q : Bool → Hp → Prop} (h : TST (model PW W0) B0 E A env c m hp Q) : TSTs (model PW W0) B0 E A env [c] m hp Q := fun s r => wpAny_tests_one (h s r)
theorem Zdj {M : Model} {A : Around} {c : Code} {R : Result → Shared → Prop} {s : Shared} (hq : c.quiet = true) (I : Nat → Shared → Prop)
    (turn : ∀ n s, I n s → ∀ (W : Fin → Shared → Prop) (X : Value → Shared → Prop), (∀ f s', R (.ok f) s' → W (.done f) s') → (∀ m s', m < n → I m s' → W (.again c) s') → wpAny M (A.under c) (M.den c) W X s)
    (n : Nat) (h : I n s) : codeAny M A c R s := codeAny_loop hq I (fun n s h => wpAny_mono (turn n s h (fun fin s' => match fin with | .done f => R (.ok f) s' | .again c' => c' = c ∧ ∃ m, m < n ∧ I m s') (fun _ _ => False) (fun _ _ x => x) (fun m s' hm hI => ⟨rfl, m, hm, hI⟩)) (fun _ _ x => x) fun _ _ x => x.elim) n h
noncomputable abbrev CInv (B0 : Shared) (L : Addr) (it acc : Addr) (n : Nat) (st : Nat → Obj → Prop) (I : Nat → List AV → Loc → Hp → Prop) (h₀ : Heap) (k : Nat) (s' : Shared) : Prop :=
  ∃ i ys m₂ hp₂ ob, k = n - i ∧ i ≤ n ∧ ys.length ≤ i ∧ I i ys m₂ hp₂ ∧ hp₂ it = some (.obj ob) ∧ hp₂ acc = some (.list ys) ∧ st i ob ∧ Rel B0 (hp₂.set L (.ns m₂)) s' ∧ ImmLe h₀ s'.heap
theorem Zlt {elt target iter : Expr} {ifs : List Expr} {scope : Scope} {pos : Pos} {it acc : Addr} {n : Nat} {el : Nat → AV} {st : Nat → Obj → Prop} {I : Nat → List AV → Loc → Hp → Prop} {R : Result → Shared → Prop} (hL : it ≠ env.locals) (hA : acc ≠ env.locals) (hn : n ≤ 5000)
    (imm : ∀ i ob, st i ob → ¬ Imm ob)
    (next : ∀ i ys m₂ hp₂ s ob, i < n → I i ys m₂ hp₂ → hp₂ it = some (.obj ob) → st i ob → Rel B0 (hp₂.set env.locals (.ns m₂)) s → ∀ (E' : Value → Shared → Prop) (W : Option Value → Shared → Prop),
      (∀ v h' t' ob', VR s.heap (el i) v → h'.get? it = some ob' → st (i + 1) ob' → Heap.SameBut it s.heap h' → W (some v) { s with heap := h', toks := t' }) → wpAny (model PW W0) A (pyNext (.ref it)) W E' s)
    (stop : ∀ ys m₂ hp₂ s ob, I n ys m₂ hp₂ → hp₂ it = some (.obj ob) → st n ob → Rel B0 (hp₂.set env.locals (.ns m₂)) s → ∀ (E' : Value → Shared → Prop) (W : Option Value → Shared → Prop),
      (∀ h' t', Heap.ExtBut it s.heap h' → W none { s with heap := h', toks := t' }) → wpAny (model PW W0) A (pyNext (.ref it)) W E' s)
    (hset : ∀ i ys m₂ hp₂ ob, I i ys m₂ hp₂ → I i ys m₂ (hp₂.set it (.obj ob)))
    (hacc : ∀ i ys m₂ hp₂ zs, I i ys m₂ hp₂ → I i ys m₂ (hp₂.set acc (.list zs)))
    (turn : ∀ i ys m₂ hp₂ ob, i < n → I i ys m₂ hp₂ → hp₂ it = some (.obj ob) → hp₂ acc = some (.list ys) → ASG (model PW W0) B0 (fun _ _ => False) A env target (el i) m₂ hp₂ fun m₃ hp₃ => TSTs (model PW W0) B0 (fun _ _ => False) A env ifs m₃ hp₃ fun b hp₄ =>
      if b then EV (model PW W0) B0 (fun _ _ => False) A env elt m₃ hp₄ fun v hp₅ => I (i + 1) (ys ++ [v]) m₃ hp₅ ∧ hp₅ it = some (.obj ob) ∧ hp₅ acc = some (.list ys)
      else I (i + 1) ys m₃ hp₄ ∧ hp₄ it = some (.obj ob) ∧ hp₄ acc = some (.list ys)) {s₀ : Shared}
    (hR : ∀ ys m' hp' s', I n ys m' hp' → hp' acc = some (.list ys) → Rel B0 ((hp'.del it).set env.locals (.ns m')) s' → ImmLe s₀.heap s'.heap → R (.ok .next) s')
    {s : Shared} {ob : Obj} (h0 : I 0 [] m hp) (hob : hp it = some (.obj ob)) (hac : hp acc = some (.list [])) (hst : st 0 ob) (rel : Rel B0 (hp.set env.locals (.ns m)) s) (le₀ : ImmLe s₀.heap s.heap)
    (cl : ∀ i ob, st i ob → ∃ n, ob.cls = .type n ∧ ["enumerate", "zip", "dict_itemiterator", "dict_reverseitemiterator", "odict_iterator", "itertools.zip_longest", "itertools.pairwise"].contains n = false) :
    codeAny (model PW W0) A (.compLoop (.ListComp elt [⟨target, iter, ifs, 0⟩] scope pos) 0 (.ref it) (.ref acc) env) R s := by
  refine Zdj rfl (CInv B0 env.locals it acc n st I s₀.heap) (fun k s' x W X hD hG => ?_) n ⟨0, [], m, hp, ob, rfl, Nat.zero_le _, Nat.zero_le _, h0, hob, hac, hst, rel, le₀⟩
  refine hide fun Gq kq => ?_
  obtain ⟨i, ys, m₂, hp₂, ob, rfl, hi, hyl, hI, hob, hac, hst, r, le⟩ := x
  refine kq ?_; clear kq Gq
  show wpAny _ A ((compTurn (.ListComp elt [⟨target, iter, ifs, 0⟩] scope pos) 0 (.ref it) (.ref acc) env).onRaise (fun x => do noteFrame x env; theTreesLotGoes x)) _ _ s'
  refine wpAny_noted ?_
  rw [compTurn_list]
  refine wpAny_bind (wpAny_standAt (wpAny_bind ?_))
  by_cases hlt : i < n
  · refine next i ys m₂ hp₂ s' ob hlt hI hob hst r _ _ fun v h' t' ob' hv hg hst' hs => ?_
    refine hide fun Gq kq => ?_
    have t := r.turn (a := it) (o := .obj ob) (Hp.snt hL hob) hs (.obj ob') (fun _ => ⟨hg, imm _ _ hst'⟩) t'
    rw [Hp.sc _ _ _ (Ne.symm hL)] at t
    obtain ⟨nm, hcl, hno⟩ := cl _ _ hst'
    refine kq ?_; clear kq Gq
    have hai : acc ≠ it := fun e => by rw [e, hob] at hac; cases hac
    refine wpAny_bind (Zbu hg hcl hno ?_)
    have hturn := turn i ys m₂ (hp₂.set it (.obj ob')) ob' hlt (hset _ _ _ _ _ hI) (Hp.ss ..) (Hp.snt hai hac)
    refine wpAny_bind (wpAny_mono (hturn _ v t.1 (hv.mono t.2)) (fun _ s₃ x => wpAny_bind ?_) fun _ _ x => x.elim)
    refine hide fun Gq kq => ?_
    obtain ⟨m₃, hp₃, r₃, le₃, q⟩ := x
    refine kq ?_; clear kq Gq
    refine wpAny_mono (q s₃ r₃) (fun b s₄ x => ?_) fun _ _ x => x.elim
    refine hide fun Gq kq => ?_
    obtain ⟨hp₄, r₄, le₄, q⟩ := x
    refine kq ?_; clear kq Gq
    cases b with
    | false =>
      rw [if_neg Bool.false_ne_true] at q
      exact wpAny_pure (hG _ _ (Zbt hlt) ⟨i + 1, ys, m₃, hp₄, ob', rfl, hlt, Nat.le_succ_of_le hyl, q.1, q.2.1, q.2.2, hst', r₄, ((le.trans t.2).trans le₃).trans le₄⟩)
    | true =>
      rw [if_pos rfl] at q
      refine wpAny_bind (wpAny_bind (wpAny_mono (q s₄ r₄) (fun x s₅ y => wpAny_bind ?_) fun _ _ x => x.elim))
      refine hide fun Gq kq => ?_
      obtain ⟨av, hp₅, r₅, le₅, hx, q⟩ := y
      obtain ⟨us, nn, hl, hus⟩ := r₅.at q.2.2 hA
      refine kq ?_; clear kq Gq
      have e2 : us.size = ys.length := by rw [← Array.length_toList]; exact hus.length
      refine wpAny_list_append_plain (items := us) ⟨nn, hl⟩ (fun h'' hpl hs' => ?_) (by rw [e2]; have := sizeLine_eq; lia)
      refine hide fun Gq kq => ?_
      obtain ⟨n', hl'⟩ := hpl
      refine kq ?_; clear kq Gq
      have t₅ := r₅.turn (a := acc) (Hp.snt hA q.2.2) hs' (.list (ys ++ [av])) (fun le => ⟨us.push x, n', hl', by rw [Array.toList_push]; exact (hus.mono le).append (VRs.one (hx.mono le))⟩) s₅.toks
      rw [Hp.sc _ _ _ (Ne.symm hA)] at t₅
      exact wpAny_pure (wpAny_pure (hG _ _ (Zbt hlt) ⟨i + 1, ys ++ [av], m₃, _, ob', rfl, hlt, by rw [List.length_append]; exact Nat.succ_le_succ hyl, hacc _ _ _ _ _ q.1, Hp.snt (Ne.symm hai) q.2.1, Hp.ss .., hst', t₅.1, ((((le.trans t.2).trans le₃).trans le₄).trans le₅).trans t₅.2⟩))
  · have : i = n := by lia
    subst this
    refine stop ys m₂ hp₂ s' ob hI hob hst r _ _ fun h' t' he => ?_
    refine hide fun Gq kq => ?_
    obtain ⟨r', le'⟩ := r.drop hob hL he t'
    refine kq ?_; clear kq Gq
    exact wpAny_pure (hD _ _ (hR ys m₂ hp₂ _ hI hac r' (le.trans le')))
theorem Rel.forget {s : Shared} (r : Rel B0 hp s) {C : Addr} {o : AO} (hC : hp C = some o) {h' : Heap} (hs : Heap.SameBut C s.heap h') (t : Nat) : Rel B0 (hp.del C) { s with heap := h', toks := t } ∧ ImmLe s.heap h' := by
  have he := hs.extBut
  have le : ImmLe s.heap h' := fun b ob e i => by
    by_cases hb : b = C
    · subst hb; exact absurd i ((r.objs _ _ hC).2.notImm _ e)
    · exact he b ob hb e
  refine ⟨⟨fun b ob e => he b ob (fun hb => ?_) (r.keep b ob e), fun a ob e => ?_, r.os, r.bare, by show _ ≤ h'.objs.size; rw [hs.1]; exact r.size⟩, le⟩
  · subst hb; exact absurd (Heap.lt_size e) (Nat.not_lt.mpr (r.objs _ _ hC).1)
  · by_cases ha : a = C
    · subst ha; simp [Hp.del] at e
    · rw [Hp.del_ne _ ha] at e
      exact ⟨(r.objs a ob e).1, (r.objs a ob e).2.here le fun o' e'' => he _ _ ha e''⟩
theorem Zei {hp₃ : Hp} {C : Addr} {m' : Loc} {s' : Shared} (hCe : C ≠ env.locals) (hc3 : hp₃ C = none) (r1 : Rel B0 ((hp₃.set C (.ns m')).set env.locals (.ns m)) s') :
    ∃ mv, s'.heap.Ns C mv ∧ ∀ h', Heap.SameBut C s'.heap h' → Rel B0 (hp₃.set env.locals (.ns m)) { s' with heap := h' } ∧ ImmLe s'.heap h' := by
  obtain ⟨mv, hn, _⟩ := (r1.objs C (.ns m') (Hp.snt hCe (Hp.ss ..))).2
  refine ⟨mv, hn, fun h' hs' => ?_⟩
  have f := r1.forget (C := C) (o := .ns m') (Hp.snt hCe (Hp.ss ..)) hs' s'.toks
  refine ⟨f.1.sub fun z o hz => ?_, f.2⟩
  have hzC : z ≠ C := fun e => by rw [e, Hp.sn _ _ hCe, hc3] at hz; cases hz
  rw [Hp.del_ne _ hzC]
  by_cases hze : z = env.locals
  · subst hze; rw [Hp.ss] at hz ⊢; exact hz
  · rw [Hp.sn _ _ hze] at hz
    exact Hp.snt hze (Hp.snt hzC hz)
structure Fr (B0 : Shared) (hp : Hp) (L : Addr) (m : Loc) (s₁ s₂ : Shared) (it acc C : Addr) (itob : Obj) (ao : AO) : Prop where
  a1 : hp it = none
  a2 : it ≠ L
  a3 : hp acc = none
  a4 : acc ≠ L
  a5 : acc ≠ it
  a6 : hp C = none
  a7 : C ≠ L
  a8 : C ≠ it
  a9 : C ≠ acc
  rel : Rel B0 ((((hp.set L (.ns m)).set it (.obj itob)).set acc ao).set C (.ns fun _ => none)) s₂
  le : ImmLe s₁.heap s₂.heap
  at_ : s₂.heap.get? it = some itob
theorem Fr.mk' {s₁ : Shared} {it acc C : Addr} {itob : Obj} {ao : AO} {H2 h₁ : Heap} {t : Nat} (h1 : hp it = none) (h2 : it ≠ env.locals) (h3 : (hp.set it (.obj itob)) acc = none) (h4 : acc ≠ env.locals)
    (r2 : Rel B0 (((hp.set it (.obj itob)).set acc ao).set env.locals (.ns m)) { s₁ with heap := H2 }) (le : ImmLe s₁.heap H2) (hC : H2.objs.size = C) (hns : h₁.Ns C fun _ => none) (k₀ : ∀ b o, H2.get? b = some o → h₁.get? b = some o) (hz : h₁.objs.size = H2.objs.size + 1) :
    Fr B0 hp env.locals m s₁ { s₁ with heap := h₁, toks := t } it acc C itob ao := by
  have fr : (((hp.set it (.obj itob)).set acc ao).set env.locals (.ns m)) C = none := by rw [← hC]; exact r2.fresh
  have a5 : acc ≠ it := fun e => by rw [e, Hp.ss] at h3; cases h3
  have n1 : C ≠ env.locals := fun e => by rw [e, Hp.ss] at fr; cases fr
  rw [Hp.sn _ _ n1] at fr
  have n2 : C ≠ acc := fun e => by rw [e, Hp.ss] at fr; cases fr
  rw [Hp.sn _ _ n2] at fr
  have n3 : C ≠ it := fun e => by rw [e, Hp.ss] at fr; cases fr
  rw [Hp.sn _ _ n3] at fr
  rw [Hp.sc _ _ _ h4, Hp.sc _ _ _ h2] at r2
  have rel : Rel B0 ((((hp.set env.locals (.ns m)).set it (.obj itob)).set acc ao).set C (.ns fun _ => none)) { s₁ with heap := h₁, toks := t } := by
    refine ⟨fun b o e => k₀ _ _ (r2.keep b o e), fun z o' e => ?_, r2.os, r2.bare, by show _ ≤ h₁.objs.size; rw [hz]; exact Nat.le_succ_of_le r2.size⟩
    by_cases hz : z = C
    · subst hz
      rw [Hp.ss] at e
      cases e
      exact ⟨by rw [← hC]; exact r2.size, _, hns, ⟨fun x v e => (by cases e), fun x _ => rfl⟩⟩
    · rw [Hp.sn _ _ hz] at e
      exact ⟨(r2.objs z o' e).1, (r2.objs z o' e).2.here (ImmLe.keep k₀) fun o'' e => k₀ _ _ e⟩
  exact ⟨h1, h2, Hp.snr a5 h3, h4, a5, fr, n1, n3, n2, rel, le.trans (ImmLe.keep k₀), (rel.objs it (.obj itob) (Hp.snt (Ne.symm n3) (Hp.snt (Ne.symm a5) (Hp.ss ..)))).2.1⟩
theorem Ze7 {scope : Scope} {cl : List (PySem.Str × Addr)} {s₁ : Shared} {itob accob : Obj} {ao : AO} {W : Env → Shared → Prop} (hcell : ∀ y ∈ scope.names, y.2 ≠ .cell) (hkind : scope.kind = .function) (r₁ : Rel B0 (hp.set env.locals (.ns m)) s₁) (hfr : itob.isFreed = false) (ni : ¬ Imm itob)
    (ho : OR ((s₁.heap.push itob).push accob) (s₁.heap.push itob).objs.size ao)
    (k : ∀ C s₂, Fr B0 hp env.locals m s₁ s₂ s₁.heap.objs.size (s₁.heap.push itob).objs.size C itob ao → W (newEnv scope C env.globals cl env.qual none .none (some env) env.builtins) s₂) :
    wpAny (model PW W0) A (newFunctionEnv scope env.globals cl [] env.qual none .none (some env)) W E { s₁ with heap := (s₁.heap.push itob).push accob } := by
  have n1 := r₁.newAt itob (.obj itob) ⟨Heap.get?_push_size _ hfr, ni⟩
  have n2 := Rel.newAt n1.1 accob ao ho
  refine wpAny_newFunctionEnv hcell (fun y hy => by cases hy) (fun h₁ hns₁ hsb₁ => k _ _ (Fr.mk' n1.2.1 n1.2.2.1 n2.2.1 n2.2.2.1 n2.1 (n1.2.2.2.trans n2.2.2.2) rfl hns₁ (fun b o e => hsb₁.extBut b o (Nat.ne_of_lt (Heap.lt_size e)) (Heap.get?_push_of_some _ e)) (by rw [hsb₁.1, Heap.size_push]))) hkind
theorem Zjp {hp₃ hp' : Hp} {C it : Addr} {m' : Loc} (hCe : C ≠ env.locals) (hc3 : hp₃ C = none) (hle : Hp.Le (hp₃.set env.locals (.ns m)) (hp'.del it)) (z : Addr) (o : AO) (hz : ((hp₃.set C (.ns m')).set env.locals (.ns m)) z = some o) : ((hp'.del it).set C (.ns m')) z = some o := by
  by_cases hzC : z = C
  · subst hzC
    rw [Hp.sn _ _ hCe, Hp.ss] at hz
    rw [Hp.ss]; exact hz
  · rw [Hp.sn _ _ hzC]
    refine hle _ _ ?_
    by_cases hze : z = env.locals
    · subst hze; rw [Hp.ss] at hz ⊢; exact hz
    · rw [Hp.sn _ _ hze, Hp.sn _ _ hzC] at hz
      exact Hp.snt hze hz
theorem Zm1 {elt target iter : Expr} {ifs : List Expr} {scope : Scope} {pos : Pos} {cl : List (PySem.Str × Addr)} {use : Option (Value → Sem Unit)} {PP : Value → Shared → Prop} {s s₁ : Shared} {itob : Obj} {n : Nat} {el : Nat → AV} {st : Nat → Obj → Prop} {F : Addr → Hp → Prop}
    (hcell : ∀ y ∈ scope.names, y.2 ≠ .cell) (hkind : scope.kind = .function) (hn : n ≤ 5000) (imm : ∀ i ob, st i ob → ¬ Imm ob) (st0 : st 0 itob) (hfr : itob.isFreed = false)
    (clst : ∀ i ob, st i ob → ∃ n, ob.cls = .type n ∧ ["enumerate", "zip", "dict_itemiterator", "dict_reverseitemiterator", "odict_iterator", "itertools.zip_longest", "itertools.pairwise"].contains n = false)
    (r₁ : Rel B0 (hp.set env.locals (.ns m)) s₁) (le₁ : ImmLe s.heap s₁.heap)
    (hpi : ∀ (it : Addr) (s' : Shared) (E' : Value → Shared → Prop) (W : Value → Shared → Prop), s'.heap.get? it = some itob → W (.ref it) s' → wpAny (model PW W0) A (pyIter (.ref it)) W E' s')
    (hpost : ∀ hp₃ acc C m' s', C ≠ env.locals → hp₃ C = none → Rel B0 ((hp₃.set C (.ns m')).set env.locals (.ns m)) s' → ImmLe s.heap s'.heap → F acc hp₃ → compPost (model PW W0) A E use PP (.ref acc) C (.ok .next) s')
    (x : ∀ it acc C, hp it = none → it ≠ env.locals → hp acc = none → acc ≠ env.locals → acc ≠ it → hp C = none → C ≠ env.locals → C ≠ it → C ≠ acc →
      ∃ I : Nat → List AV → Loc → Hp → Prop, (∀ ob, I 0 [] (fun _ => none) (((hp.set env.locals (.ns m)).set it (.obj ob)).set acc (.list []))) ∧ (∀ i ys m₂ hp₂ ob, I i ys m₂ hp₂ → I i ys m₂ (hp₂.set it (.obj ob))) ∧ (∀ i ys m₂ hp₂ zs, I i ys m₂ hp₂ → I i ys m₂ (hp₂.set acc (.list zs))) ∧
        (∀ i ys m₂ hp₂ s' ob, i < n → I i ys m₂ hp₂ → hp₂ it = some (.obj ob) → st i ob → Rel B0 (hp₂.set C (.ns m₂)) s' → s'.heap.get? it = some ob → ∀ (E' : Value → Shared → Prop) (W : Option Value → Shared → Prop),
          (∀ v h' t' ob', VR s'.heap (el i) v → h'.get? it = some ob' → st (i + 1) ob' → Heap.SameBut it s'.heap h' → W (some v) { s' with heap := h', toks := t' }) → wpAny (model PW W0) A (pyNext (.ref it)) W E' s') ∧
        (∀ ys m₂ hp₂ s' ob, I n ys m₂ hp₂ → hp₂ it = some (.obj ob) → st n ob → Rel B0 (hp₂.set C (.ns m₂)) s' → s'.heap.get? it = some ob → ∀ (E' : Value → Shared → Prop) (W : Option Value → Shared → Prop),
          (∀ h' t', Heap.ExtBut it s'.heap h' → W none { s' with heap := h', toks := t' }) → wpAny (model PW W0) A (pyNext (.ref it)) W E' s') ∧
        (∀ i ys m₂ hp₂ ob, i < n → I i ys m₂ hp₂ → hp₂ it = some (.obj ob) → hp₂ acc = some (.list ys) → ASG (model PW W0) B0 (fun _ _ => False) A (compEnvC scope cl C env) target (el i) m₂ hp₂ fun m₃ hp₃ => TSTs (model PW W0) B0 (fun _ _ => False) A (compEnvC scope cl C env) ifs m₃ hp₃ fun b hp₄ =>
          if b then EV (model PW W0) B0 (fun _ _ => False) A (compEnvC scope cl C env) elt m₃ hp₄ fun v hp₅ => I (i + 1) (ys ++ [v]) m₃ hp₅ ∧ hp₅ it = some (.obj ob) ∧ hp₅ acc = some (.list ys)
          else I (i + 1) ys m₃ hp₄ ∧ hp₄ it = some (.obj ob) ∧ hp₄ acc = some (.list ys)) ∧
        (∀ ys m₂ hp₂, I n ys m₂ hp₂ → hp₂ acc = some (.list ys) → ∃ hp₃, Hp.Le (hp₃.set env.locals (.ns m)) (hp₂.del it) ∧ hp₃ C = none ∧ F acc hp₃)) :
    wpAny (model PW W0) A (newList []) (fun acc s₃ => wpAny (model PW W0) A (newFunctionEnv scope env.globals cl [] env.qual none .none (some env)) (fun cenv s₄ => codeAny (model PW W0) A (.compStart (.ListComp elt [⟨target, iter, ifs, 0⟩] scope pos) 0 (.ref s₁.heap.objs.size) acc { cenv with scope := relabel scope env }) (compPost (model PW W0) A E use PP acc cenv.locals) s₄) E s₃) E { s₁ with heap := s₁.heap.push itob } := by
  refine wpAny_newObj_type (Ze7 (ao := .list []) hcell hkind r₁ hfr (imm _ _ st0) ⟨#[], 0, IsL.new _ _, by simp [VRs]⟩ fun C s₂ f => ?_)
  refine hide fun Gq kq => ?_
  obtain ⟨I, i0, iset, iacc, inext, istop, iturn, ifin⟩ := x _ _ C f.a1 f.a2 f.a3 f.a4 f.a5 f.a6 f.a7 f.a8 f.a9
  refine kq ?_; clear kq Gq
  have loop : codeAny (model PW W0) A (.compLoop (.ListComp elt [⟨target, iter, ifs, 0⟩] scope pos) 0 (.ref s₁.heap.objs.size) (.ref (s₁.heap.push itob).objs.size) (compEnvC scope cl C env)) (compPost (model PW W0) A E use PP (.ref (s₁.heap.push itob).objs.size) C) s₂ := by
    refine Zlt (n := n) (env := compEnvC scope cl C env) (el := el) (st := st) (I := I) (s₀ := s) (Ne.symm f.a8) (Ne.symm f.a9) hn imm
      (fun i ys m₂ hp₂ s' ob hi hI hob hst r' E' W k => inext i ys m₂ hp₂ s' ob hi hI hob hst r' (r'.at hob (Ne.symm f.a8)).1 E' W k) (fun ys m₂ hp₂ s' ob hI hob hst r' E' W k => istop ys m₂ hp₂ s' ob hI hob hst r' (r'.at hob (Ne.symm f.a8)).1 E' W k) iset iacc iturn
      (fun ys m' hp' s' hI hac r' le' => ?_) (i0 _) (Hp.snt (Ne.symm f.a5) (Hp.ss ..)) (Hp.ss ..) st0 f.rel (le₁.trans f.le) clst
    obtain ⟨hp₃, hle3, hc3, q⟩ := ifin ys m' hp' hI hac
    exact hpost hp₃ _ C m' s' f.a7 hc3 (r'.sub (Zjp f.a7 hc3 hle3)) le' q
  exact codeAny_compStart_list loop (hpi _ _ _ _ f.at_ loop)
theorem Zd8 {s : Shared} {Q : AV → Hp → Prop} (hp₃ : Hp) (acc C : Addr) (m' : Loc) (s' : Shared) (hCe : C ≠ env.locals) (hc3 : hp₃ C = none) (r1 : Rel B0 ((hp₃.set C (.ns m')).set env.locals (.ns m)) s') (le' : ImmLe s.heap s'.heap) (q : Q (.ref acc) hp₃) :
    compPost (model PW W0) A E none (fun v s' => ∃ av hp', Rel B0 (hp'.set env.locals (.ns m)) s' ∧ ImmLe s.heap s'.heap ∧ VR s'.heap av v ∧ Q av hp') (.ref acc) C (.ok .next) s' := by
  refine hide fun Gq kq => ?_
  obtain ⟨mv, hn, k⟩ := Zei hCe hc3 r1
  refine kq ?_; clear kq Gq
  exact ⟨mv, hn, fun h' hs' => ⟨.ref acc, hp₃, (k h' hs').1, le'.trans (k h' hs').2, VR_ref, q⟩⟩
theorem Zf3 {s : Shared} {y : PySem.Str} {py : Pos} {Q : AF → Loc → Hp → Prop} (hly : env.kindOf y = some .local) (hky : (env.scope.kind == .class || (env.scope.kind == .module && env.locals != env.globals)) = false) (hp₃ : Hp) (acc C : Addr) (m' : Loc) (s' : Shared) (hCe : C ≠ env.locals) (hc3 : hp₃ C = none) (r1 : Rel B0 ((hp₃.set C (.ns m')).set env.locals (.ns m)) s') (le' : ImmLe s.heap s'.heap) (q : Q .next (upd m y (.ref acc)) hp₃) :
    compPost (model PW W0) A E (some (assign (.Name y py) env)) (fun _ s' => wpAny (model PW W0) A (pure () : Sem Unit) (fun _ s' => wpAny (model PW W0) A (pure Flow.next) (fun fl s' => ∃ af m' hp', Rel B0 (hp'.set env.locals (.ns m')) s' ∧ ImmLe s.heap s'.heap ∧ FR s'.heap af fl ∧ Q af m' hp') E s') E s') (.ref acc) C (.ok .next) s' := by
  refine PyProof.Rows.assign_Name (Zb1 r1 (VR_ref (a := acc)) (fun s₂ r₂ le₂ => ?_) hly hky)
  obtain ⟨mv, hn, k⟩ := Zei hCe hc3 r₂
  exact ⟨mv, hn, fun h' hs' => wpAny_pure (wpAny_pure ⟨.next, _, hp₃, (k h' hs').1, (le'.trans le₂).trans (k h' hs').2, rfl, q⟩)⟩
theorem Zke {a it C : Addr} {xs : List AV} {i : Nat} {m₂ : Loc} {hp₂ : Hp} {s' : Shared} {ob : Obj} (hi : i < xs.length) (hl : Lst B0 hp₂ C a xs) (hst : ob.cls = .type "list_iterator" ∧ ob.data = .fields #[.ref a, .int i 0]) (r' : Rel B0 (hp₂.set C (.ns m₂)) s') (hg : s'.heap.get? it = some ob) (hC : C = env.locals)
    (E' : Value → Shared → Prop) (W : Option Value → Shared → Prop) (k : ∀ v h' t' ob', VR s'.heap (xs.getD i .none) v → h'.get? it = some ob' → (ob'.cls = .type "list_iterator" ∧ ob'.data = .fields #[.ref a, .int ((i + 1 : Nat) : Int) 0]) → Heap.SameBut it s'.heap h' → W (some v) { s' with heap := h', toks := t' }) :
    wpAny (model PW W0) A (pyNext (.ref it)) W E' s' := by
  refine hide fun Gq kq => ?_
  subst hC
  obtain ⟨vs', hl', hvs'⟩ := r'.lst hl
  obtain ⟨v, hv, hxv⟩ := hvs'.get (i := i) (x := xs.getD i .none) (by simp [List.getD, List.getElem?_eq_getElem hi])
  refine kq ?_; clear kq Gq
  refine wpAny_pyNext_list_item (i := i) ⟨ob, hg, hst.1, hst.2⟩ hl' (by simpa using hv) fun h' hit' hs' => ?_
  refine hide fun Gq kq => ?_
  obtain ⟨ob', hg', hc', hd'⟩ := hit'
  refine kq ?_; clear kq Gq
  exact k v h' s'.toks ob' hxv hg' ⟨hc', hd'⟩ hs'
theorem Zkd {a it C : Addr} {xs : List AV} {m₂ : Loc} {hp₂ : Hp} {s' : Shared} {ob : Obj} (hh : A.handled = none) (hl : Lst B0 hp₂ C a xs) (hst : ob.cls = .type "list_iterator" ∧ ob.data = .fields #[.ref a, .int xs.length 0]) (r' : Rel B0 (hp₂.set C (.ns m₂)) s') (hg : s'.heap.get? it = some ob) (hC : C = env.locals)
    (E' : Value → Shared → Prop) (W : Option Value → Shared → Prop) (k : ∀ h' t', Heap.ExtBut it s'.heap h' → W none { s' with heap := h', toks := t' }) : wpAny (model PW W0) A (pyNext (.ref it)) W E' s' := by
  refine hide fun Gq kq => ?_
  subst hC
  obtain ⟨vs', hl', hvs'⟩ := r'.lst hl
  refine kq ?_; clear kq Gq
  refine wpAny_pyNext_list_end hh (i := xs.length) ⟨ob, hg, hst.1, hst.2⟩ hl' ?_ fun h' he => k h' s'.toks he
  have e : vs'.size = xs.length := by rw [← Array.length_toList]; exact hvs'.length
  exact Array.getElem?_eq_none (by lia)
end
section
variable {A : Around} {E : Value → Shared → Prop} {env : Env} {m : Loc} {hp : Hp} {K : Frag}
end
noncomputable def Zbc (id : String) (a : Addr) : Obj := { cls := .type "builtin_function_or_method", data := .fields #[.builtin id, .ref a] }
theorem bndOb_notImm {id : String} {a : Addr} : ¬ Imm (Zbc id a) := by rintro ⟨_, _, _, e⟩; cases e
theorem Zf9 : entryFor table "method_descriptor.__get__" = some Builtin.«method_descriptor.__get__» := entryFor_of_tree (by kernel_rfl)
theorem mdg_slot : Slot "method_descriptor" "__get__" "method_descriptor.__get__" :=
  .of (owner := "method_descriptor") (n := "__get__") (by rw [typeLookup_type, builtinLookup_eq_fast]; kernel_rfl) (by decide +kernel) (by decide +kernel) (by decide +kernel)
    (by first | exact .inl (by decide +kernel) | exact .inr (by decide +kernel)) (by rw [isSubtype_type]; kernel_rfl)
theorem Zh0 (a b c : Value) : argsOk "method_descriptor.__get__" ⟨[a, b, c], []⟩ := by unfold argsOk; kernel_rfl
theorem Zmn : typeLookup (.type "method_descriptor") (PySem.Str.ofString "__set__") = pure none := by rw [typeLookup_type, builtinLookup_eq_fast]; kernel_rfl
theorem Zmo : typeLookup (.type "method_descriptor") (PySem.Str.ofString "__delete__") = pure none := by rw [typeLookup_type, builtinLookup_eq_fast]; kernel_rfl
structure BndOk (T : String) (name : PySem.Str) (id gid : String) : Prop where
  slot : Slot T name id
  ty : typeOf (.builtin id) = pure (.type "method_descriptor")
  ga : Slot T "__getattribute__" gid
  gn : (Value.builtin gid == Value.builtin "object.__getattribute__") = false
  ge : entryFor table gid = some Builtin.«object.__getattribute__»
  gargs : ∀ x y, argsOk gid ⟨[x, y], []⟩
  hook : typeLookup (.type T) (PySem.Str.ofString "__getattr__") = pure none
  plainName : ((["__module__", "__name__", "__qualname__", "__doc__", "__annotations__"] : List PySem.Str).contains name) = false
  told : Manifest.toldItsClass.contains id = false
section
variable {A : Around} {E : Value → Shared → Prop} {s : Shared}
theorem Zmi {T : String} {name : PySem.Str} {id gid : String} {a : Addr} {o : Obj} {Q : Builtin.ObjectAttr.Found → Shared → Prop} (b : BndOk T name id gid) (ho : s.heap.get? a = some o) (hc : o.cls = .type T) (hd : o.dict = none) (hn : ∀ c, o.data ≠ .cls c)
    (h : Q (.bind (.builtin "method_descriptor.__get__") (.builtin id)) s) : wpAny (model PW W0) A (Builtin.ObjectAttr.find (.ref a) (.type T) name) Q E s := by
  unfold Builtin.ObjectAttr.find
  refine wpAny_bind (wpAny_of_eq b.slot.lookup (wpAny_bind ?_))
  show wpAny _ _ (specialOf (.builtin id) "__get__") _ _ s
  unfold specialOf
  refine wpAny_bind (wpAny_of_eq b.ty (wpAny_of_eq mdg_slot.lookup ?_))
  refine wpAny_bind ?_
  show wpAny _ _ (Builtin.ObjectAttr.takesStores (.builtin id) >>= _) _ _ s
  refine wpAny_bind ?_
  unfold Builtin.ObjectAttr.takesStores specialOf
  refine wpAny_bind (wpAny_bind (wpAny_of_eq b.ty (wpAny_of_eq Zmn ?_)))
  simp only [Option.isSome_none, Bool.false_eq_true, if_false]
  refine wpAny_bind (wpAny_bind (wpAny_of_eq b.ty (wpAny_of_eq Zmo ?_)))
  refine wpAny_pure ?_
  simp only [Option.isSome_none, Bool.false_eq_true, if_false]
  refine wpAny_pure ?_
  dsimp only
  unfold Builtin.ObjectAttr.ownThenClass
  refine wpAny_bind ?_
  show wpAny _ _ (Builtin.ObjectAttr.ownDict a >>= _) _ _ s
  refine wpAny_bind ?_
  unfold Builtin.ObjectAttr.ownDict loadHead
  refine wpAny_bind (wpAny_loadPart ho ?_)
  have hin : wpAny (model PW W0) A (instanceDict a false) (fun d s' => d = none ∧ s' = s) E s := by
    unfold instanceDict
    refine wpAny_bind (wpAny_loadPart ho ?_)
    rw [hc, hd]
    exact wpAny_pure ⟨rfl, rfl⟩
  have fin : wpAny (model PW W0) A (Builtin.ObjectAttr.inDict name none) (fun r s' => wpAny (model PW W0) A (match r with | some v => (do rule "getattr.instance-dict"; pure (.value v)) | none => (do Builtin.ObjectAttr.copiedAttributeGuard name (.ref a); Builtin.ObjectAttr.byTheClass (some (.builtin id)) (some (.builtin "method_descriptor.__get__")))) Q E s') E s := by
    refine wpAny_pure ?_
    dsimp only
    refine wpAny_bind ?_
    unfold Builtin.ObjectAttr.copiedAttributeGuard
    dsimp only
    rw [b.plainName]
    refine wpAny_pure ?_
    exact wpAny_bind (wpAny_rule (wpAny_pure h))
  have post : ∀ d s', d = none ∧ s' = s → wpAny (model PW W0) A (Builtin.ObjectAttr.inDict name d) (fun r s' => wpAny (model PW W0) A (match r with | some v => (do rule "getattr.instance-dict"; pure (.value v)) | none => (do Builtin.ObjectAttr.copiedAttributeGuard name (.ref a); Builtin.ObjectAttr.byTheClass (some (.builtin id)) (some (.builtin "method_descriptor.__get__")))) Q E s') E s' := by
    rintro d s' ⟨rfl, rfl⟩; exact fin
  obtain ⟨oc, od, odt, osl⟩ := o
  cases odt with
  | cls c => exact absurd rfl (hn c)
  | _ => exact wpAny_mono hin post fun _ _ x => x
theorem Zde {T : String} {name : PySem.Str} {id gid : String} {a : Addr} {o : Obj} {Q : Value → Shared → Prop} (b : BndOk T name id gid) (ho : s.heap.get? a = some o) (hc : o.cls = .type T) (hd : o.dict = none) (hn : ∀ c, o.data ≠ .cls c)
    (hck : ∀ {s : Shared} {o : Obj} {Q : Value → Shared → Prop}, s.heap.get? a = some o → o.cls = .type T → Q (.ref s.heap.objs.size) { s with heap := s.heap.push (Zbc id a) } → wpAny (model PW W0) A.in1 (call (.builtin "method_descriptor.__get__") [.builtin id, .ref a, .type T]) Q (fun _ _ => False) s)
    (h : Q (.ref s.heap.objs.size) { s with heap := s.heap.push (Zbc id a), toks := s.toks + 1 }) : wpAny (model PW W0) A (getAttr (.ref a) name true) Q E s := by
  unfold getAttr
  refine wpAny_bind (wpAny_mkText ?_)
  unfold getAttrBy
  have hT : ({ s with toks := s.toks + 1 } : Shared).TypeIs (.ref a) T := ⟨o, ho, hc⟩
  refine wpAny_holding (wpAny_bind (wpAny_typeOf hT (wpAny_bind (wpAny_of_eq b.ga.lookup ?_))))
  dsimp only [onTheHeap]
  simp only [Bool.false_and, Bool.false_eq_true, if_false]
  unfold getAttrByItsOwn hookBefore
  dsimp only [onTheHeap]
  simp only [Bool.false_eq_true, if_false]
  refine wpAny_bind (wpAny_pure (wpAny_bind (wpAny_attempt (wpAny_holding ?_))))
  unfold callGetattribute
  dsimp only [onTheHeap]
  simp only [Bool.and_false, Bool.false_eq_true, if_false]
  unfold boundAndCalled
  refine wpAny_bind (wpAny_of_eq (b.ga.bind _) ?_)
  refine wpAny_call_entry b.ga hT b.ge ?_ (b.gargs _ _)
  unfold Builtin.«object.__getattribute__»
  refine wpAny_bind (wpAny_of_eq (a := (.ref a, [.str name s.toks])) rfl ?_)
  dsimp only
  refine wpAny_bind (wpAny_of_eq (a := name) rfl (wpAny_bind (wpAny_typeOf hT (wpAny_bind (Zmi (s := { s with toks := s.toks + 1 }) b ho hc hd hn ?_)))))
  dsimp only
  unfold Builtin.ObjectAttr.bindTo
  refine wpAny_bind (wpAny_holding (wpAny_mono (hck (s := { s with toks := s.toks + 1 }) ho hc (Q := fun v s' => v = .ref s.heap.objs.size ∧ s' = { s with heap := s.heap.push (Zbc id a), toks := s.toks + 1 }) ⟨rfl, rfl⟩) (fun v s' x => ?_) fun _ _ x => x.elim))
  obtain ⟨rfl, rfl⟩ := x
  refine wpAny_pure ⟨_, rfl, ?_⟩
  exact wpAny_pure h

theorem Zf8 {a : Addr} {s : Shared} {o : Obj} {Q : Value → Shared → Prop} (ho : s.heap.get? a = some o) (hc : o.cls = .type "dict") (h : Q (.ref s.heap.objs.size) { s with heap := s.heap.push (Zbc "dict.get" a) }) :
    wpAny (model PW W0) A (call (.builtin "method_descriptor.__get__") [.builtin "dict.get", .ref a, .type "dict"]) Q E s := by
  have hty : typeOf (.builtin "dict.get") = pure (.type "method_descriptor") := by show builtinType _ = _; rw [builtinType_eq_fast]; kernel_rfl
  refine wpAny_call_entry mdg_slot hty Zf9 ?_ (Zh0 _ _ _)
  unfold Builtin.«method_descriptor.__get__»
  refine wpAny_bind (wpAny_of_eq (a := (.builtin "dict.get", some (.ref a), some (.type "dict"))) (by first | rfl | kernel_rfl) ?_)
  dsimp only
  rw [show Manifest.toldItsClass.contains "dict.get" = false from by decide +kernel]
  simp only [Bool.false_eq_true, if_false]
  refine wpAny_bind (m := _) ?_
  refine wpAny_bind (wpAny_of_eq (a := (PySem.Str.ofString "get", .type "dict")) (by first | rfl | kernel_rfl) ?_)
  dsimp only
  refine wpAny_bind (wpAny_isInstance (T := "dict") (b := true) ⟨o, ho, hc⟩ (by rw [isSubtype_type]; kernel_rfl) ?_)
  simp only [Bool.not_true, Bool.false_eq_true, if_false]
  refine wpAny_pure ?_
  unfold newFields
  refine wpAny_bind (wpAny_newObj_type (wpAny_pure ⟨_, rfl, h⟩))
theorem Zm4 : BndOk "dict" (PySem.Str.ofString "get") "dict.get" "dict.__getattribute__" where
  gn := by decide +kernel
  ge := entryFor_alias (id' := "object.__getattribute__") (by kernel_rfl) rfl (by decide +kernel) (by kernel_rfl)
  gargs := fun _ _ => by unfold argsOk; kernel_rfl
  slot := .of (owner := "dict") (n := "get") (by rw [typeLookup_type, builtinLookup_eq_fast]; kernel_rfl) (by decide +kernel) (by decide +kernel) (by decide +kernel)
    (by first | exact .inl (by decide +kernel) | exact .inr (by decide +kernel)) (by rw [isSubtype_type]; kernel_rfl)
  ty := by show builtinType _ = _; rw [builtinType_eq_fast]; kernel_rfl
  ga := .of (owner := "dict") (n := "__getattribute__") (by rw [typeLookup_type, builtinLookup_eq_fast]; kernel_rfl) (by decide +kernel) (by decide +kernel) (by decide +kernel)
    (by first | exact .inl (by decide +kernel) | exact .inr (by decide +kernel)) (by rw [isSubtype_type]; kernel_rfl)
  hook := by rw [typeLookup_type, builtinLookup_eq_fast]; kernel_rfl
  plainName := by decide +kernel
  told := by decide +kernel

theorem Zfk {a : Addr} {s : Shared} {o : Obj} {Q : Value → Shared → Prop} (ho : s.heap.get? a = some o) (hc : o.cls = .type "set") (h : Q (.ref s.heap.objs.size) { s with heap := s.heap.push (Zbc "set.__contains__" a) }) :
    wpAny (model PW W0) A (call (.builtin "method_descriptor.__get__") [.builtin "set.__contains__", .ref a, .type "set"]) Q E s := by
  have hty : typeOf (.builtin "set.__contains__") = pure (.type "method_descriptor") := by show builtinType _ = _; rw [builtinType_eq_fast]; kernel_rfl
  refine wpAny_call_entry mdg_slot hty Zf9 ?_ (Zh0 _ _ _)
  unfold Builtin.«method_descriptor.__get__»
  refine wpAny_bind (wpAny_of_eq (a := (.builtin "set.__contains__", some (.ref a), some (.type "set"))) (by first | rfl | kernel_rfl) ?_)
  dsimp only
  rw [show Manifest.toldItsClass.contains "set.__contains__" = false from by decide +kernel]
  simp only [Bool.false_eq_true, if_false]
  refine wpAny_bind (m := _) ?_
  refine wpAny_bind (wpAny_of_eq (a := (PySem.Str.ofString "__contains__", .type "set")) (by first | rfl | kernel_rfl) ?_)
  dsimp only
  refine wpAny_bind (wpAny_isInstance (T := "set") (b := true) ⟨o, ho, hc⟩ (by rw [isSubtype_type]; kernel_rfl) ?_)
  simp only [Bool.not_true, Bool.false_eq_true, if_false]
  refine wpAny_pure ?_
  unfold newFields
  refine wpAny_bind (wpAny_newObj_type (wpAny_pure ⟨_, rfl, h⟩))
theorem Zk2 : BndOk "set" (PySem.Str.ofString "__contains__") "set.__contains__" "set.__getattribute__" where
  gn := by decide +kernel
  ge := entryFor_alias (id' := "object.__getattribute__") (by kernel_rfl) rfl (by decide +kernel) (by kernel_rfl)
  gargs := fun _ _ => by unfold argsOk; kernel_rfl
  slot := .of (owner := "set") (n := "__contains__") (by rw [typeLookup_type, builtinLookup_eq_fast]; kernel_rfl) (by decide +kernel) (by decide +kernel) (by decide +kernel)
    (by first | exact .inl (by decide +kernel) | exact .inr (by decide +kernel)) (by rw [isSubtype_type]; kernel_rfl)
  ty := by show builtinType _ = _; rw [builtinType_eq_fast]; kernel_rfl
  ga := .of (owner := "set") (n := "__getattribute__") (by rw [typeLookup_type, builtinLookup_eq_fast]; kernel_rfl) (by decide +kernel) (by decide +kernel) (by decide +kernel)
    (by first | exact .inl (by decide +kernel) | exact .inr (by decide +kernel)) (by rw [isSubtype_type]; kernel_rfl)
  hook := by rw [typeLookup_type, builtinLookup_eq_fast]; kernel_rfl
  plainName := by decide +kernel
  told := by decide +kernel

end
theorem IPairs.pairs : ∀ {es : List DictEntry} {ps : List (Int × Value)}, IPairs es ps → Pairs (intKind PW W0) es ps
  | [], ps, h => by simp only [IPairs] at h; subst h; exact .nil
  | e :: es, ps, h => by
    simp only [IPairs] at h
    obtain ⟨kv, r, rfl, h1, h2, h3⟩ := h
    exact .cons h1 h2 (IPairs.pairs h3)
theorem IPairs.of {es : List DictEntry} {ps : List (Int × Value)} (h : Pairs (intKind PW W0) es ps) : IPairs es ps := by
  induction h with
  | nil => simp [IPairs]
  | cons h1 h2 _ ih => simp only [IPairs]; exact ⟨_, _, rfl, h1, h2, ih⟩
theorem IDict.of {h : Heap} {a : Addr} {ps : List (Int × Value)} (x : h.DictOf (intKind PW W0) a ps) : IDict h a ps :=
  let ⟨o, es, ep, h1, h2, h3, h4, h5, h6⟩ := x; ⟨o, es, ep, h1, h2, h3, h4, IPairs.of h5, h6⟩
theorem IDict.dictOf {h : Heap} {a : Addr} {ps : List (Int × Value)} (x : IDict h a ps) (_ : Program) (_ : World) : h.DictOf (intKind PW W0) a ps :=
  let ⟨o, es, ep, h1, h2, h3, h4, h5, h6⟩ := x; ⟨o, es, ep, h1, h2, h3, h4, h5.pairs, h6⟩
noncomputable def dget (kvs : List (Int × AV)) (k : Int) : Option AV := (kvs.find? fun kv => kv.1 = k).map (·.2)
noncomputable def dput (kvs : List (Int × AV)) (k : Int) (v : AV) : List (Int × AV) :=
  if kvs.any (fun kv => kv.1 = k) then kvs.map (fun kv => if kv.1 = k then (kv.1, v) else kv) else kvs ++ [(k, v)]
noncomputable def KVR (h : Heap) (kvs : List (Int × AV)) (ps : List (Int × Value)) : Prop := ps.map (·.1) = kvs.map (·.1) ∧ VRs h (kvs.map (·.2)) (ps.map (·.2))
theorem KVR.mono {h h' : Heap} (le : ImmLe h h') {kvs : List (Int × AV)} {ps : List (Int × Value)} (x : KVR h kvs ps) : KVR h' kvs ps := ⟨x.1, x.2.mono le⟩
theorem KVR.length {h : Heap} {kvs : List (Int × AV)} {ps : List (Int × Value)} (x : KVR h kvs ps) : ps.length = kvs.length := by
  have := congrArg List.length x.1; simpa using this
theorem KVR.cons {h : Heap} {k : Int} {v : AV} {kvs : List (Int × AV)} {ps : List (Int × Value)} (x : KVR h ((k, v) :: kvs) ps) : ∃ u r, ps = (k, u) :: r ∧ VR h v u ∧ KVR h kvs r := by
  refine hide fun Gq kq => ?_
  obtain ⟨h1, h2⟩ := x
  refine kq ?_; clear kq Gq
  cases ps with
  | nil => simp at h1
  | cons p r =>
    refine hide fun Gq kq => ?_
    obtain ⟨k', u⟩ := p
    simp only [List.map_cons, List.cons.injEq, VRs] at h1 h2
    obtain ⟨u', r', ⟨rfl, rfl⟩, h3, h4⟩ := h2
    obtain ⟨rfl, h5⟩ := h1
    refine kq ?_; clear kq Gq
    exact ⟨_, _, rfl, h3, h5, h4⟩
theorem KVR.mk_cons {h : Heap} {k : Int} {v : AV} {u : Value} {kvs : List (Int × AV)} {ps : List (Int × Value)} (hv : VR h v u) (x : KVR h kvs ps) : KVR h ((k, v) :: kvs) ((k, u) :: ps) :=
  ⟨by simp [x.1], by simp only [List.map_cons, VRs]; exact ⟨_, _, rfl, hv, x.2⟩⟩
theorem KVR.get {h : Heap} {k : Int} : ∀ {kvs : List (Int × AV)} {ps : List (Int × Value)}, KVR h kvs ps → (∀ v, dget kvs k = some v → ∃ u, valueAt ps k = some u ∧ VR h v u) ∧ (dget kvs k = none → valueAt ps k = none)
  | [], ps, x => by
    have : ps = [] := by have := x.length; exact List.length_eq_zero_iff.mp this
    subst this
    exact ⟨fun v e => by simp [dget] at e, fun _ => rfl⟩
  | (k', v') :: kvs, ps, x => by
    refine hide fun Gq kq => ?_
    obtain ⟨u, r, rfl, hv, x'⟩ := x.cons
    refine kq ?_; clear kq Gq
    have ih := KVR.get (k := k) x'
    by_cases e : k' = k
    · simp only [dget, valueAt, List.find?_cons, e, decide_true, if_true, Option.map_some, Option.some.injEq] at ih ⊢
      exact ⟨fun v hv' => ⟨u, rfl, hv' ▸ hv⟩, fun h => by cases h⟩
    · simp only [dget, valueAt, List.find?_cons, e, decide_false] at ih ⊢
      exact ih
theorem KVR.any {h : Heap} {k : Int} : ∀ {kvs : List (Int × AV)} {ps : List (Int × Value)}, KVR h kvs ps → (ps.any fun kv => decide (kv.1 = k)) = (kvs.any fun kv => decide (kv.1 = k))
  | [], ps, x => by
    have : ps = [] := by have := x.length; exact List.length_eq_zero_iff.mp this
    subst this; rfl
  | (k', v') :: kvs, ps, x => by
    obtain ⟨u, r, rfl, hv, x'⟩ := x.cons
    simp only [List.any_cons, KVR.any x']
theorem KVR.append {h : Heap} {k : Int} {v : AV} {u : Value} (hv : VR h v u) : ∀ {kvs : List (Int × AV)} {ps : List (Int × Value)}, KVR h kvs ps → KVR h (kvs ++ [(k, v)]) (ps ++ [(k, u)])
  | [], ps, x => by
    have : ps = [] := by have := x.length; exact List.length_eq_zero_iff.mp this
    subst this; exact KVR.mk_cons hv ⟨rfl, by simp [VRs]⟩
  | (k', v') :: kvs, ps, x => by
    obtain ⟨u, r, rfl, hv', x'⟩ := x.cons
    exact KVR.mk_cons hv' (KVR.append hv x')
theorem KVR.map {h : Heap} {k : Int} {v : AV} {u : Value} (hv : VR h v u) : ∀ {kvs : List (Int × AV)} {ps : List (Int × Value)}, KVR h kvs ps →
    KVR h (kvs.map fun kv => if kv.1 = k then (kv.1, v) else kv) (ps.map fun kv => if kv.1 = k then (kv.1, u) else kv)
  | [], ps, x => by
    have : ps = [] := by have := x.length; exact List.length_eq_zero_iff.mp this
    subst this; exact ⟨rfl, by simp [VRs]⟩
  | (k', v') :: kvs, ps, x => by
    refine hide fun Gq kq => ?_
    obtain ⟨u, r, rfl, hv', x'⟩ := x.cons
    refine kq ?_; clear kq Gq
    simp only [List.map_cons]
    by_cases e : k' = k
    · simp only [e, if_true]; exact KVR.mk_cons hv (KVR.map hv x')
    · simp only [e, if_false]; exact KVR.mk_cons hv' (KVR.map hv x')
theorem KVR.put {h : Heap} {k : Int} {v : AV} {u : Value} (hv : VR h v u) {kvs : List (Int × AV)} {ps : List (Int × Value)} (x : KVR h kvs ps) : KVR h (dput kvs k v) (PySem.stored ps k u) := by
  unfold dput PySem.stored
  rw [x.any]
  split
  · exact x.map hv
  · exact x.append hv
section
variable {A : Around} {E : Value → Shared → Prop} {s : Shared}
theorem Zd1 {d : Addr} {ps : List (Int × Value)} {k : Int} {key dflt : Value} {Q : Value → Shared → Prop} (hkey : Value.isInt k key = true) (hm : s.heap.DictOf (intKind PW W0) d ps)
    (hthere : ∀ v, valueAt ps k = some v → Q v { s with toks := s.toks + 1 })
    (hnew : valueAt ps k = none → ∀ h', h'.DictOf (intKind PW W0) d (ps ++ [(k, dflt)]) → Heap.SameBut d s.heap h' → Q dflt { s with heap := h', toks := s.toks + 1 })
    (hz : ps.length ≤ sizeLine) :
    wpAny (model PW W0) A (dictSetDefault d key dflt) Q E s := by
  refine hide fun Gq kq => ?_
  obtain ⟨o, es, ep, ho, hc, hd, hk, hp, hn⟩ := hm
  refine kq ?_; clear kq Gq
  have hkey' : (intKind PW W0).is k key = true := hkey
  have hes : es.size ≤ sizeLine := by
    have e1 := hp.length
    have e2 : es.toList.length = es.size := by simp
    lia
  unfold dictSetDefault
  refine wpAny_holding ?_
  refine wpAny_bind ((intKind PW W0).pyHash hkey' ?_)
  refine wpAny_bind (wpAny_dictFind_of (s := { s with toks := s.toks + 1 }) hkey' ho hd hk ?_)
  have hidx : (es.findIdx? fun e => (intKind PW W0).is k e.key) = ps.findIdx? fun kv => decide (kv.1 = k) := by
    rw [← hp.findIdx k]; obtain ⟨l⟩ := es; simp
  cases hi : es.findIdx? fun e => (intKind PW W0).is k e.key with
  | some i =>
    refine hide fun Gq kq => ?_
    have hl : (es.toList.findIdx? fun e => (intKind PW W0).is k e.key) = some i := by rw [← hi]; obtain ⟨l⟩ := es; simp
    obtain ⟨e, he, hek, hev⟩ := hp.at hl
    refine kq ?_; clear kq Gq
    refine wpAny_bind (wpAny_dictEntries (s := { s with toks := s.toks + 1 }) ho hd ?_)
    have he' : es[i]? = some e := by rw [← he]; obtain ⟨l⟩ := es; simp
    rw [he']
    exact wpAny_bind (wpAny_rule (wpAny_pure (hthere e.val hev)))
  | none =>
    have hnot : k ∉ ps.map (·.1) := not_mem_of_findIdx_none (hidx ▸ hi)
    have hfk : valueAt ps k = none := by
      unfold valueAt
      rw [List.find?_eq_none.mpr]; rfl
      intro x hx; simp only [decide_eq_true_eq]; exact fun e => hnot (List.mem_map.mpr ⟨x, hx, e⟩)
    refine wpAny_bind (wpAny_rule (wpAny_bind (wpAny_updateDictKeys (hz := hes) (s := { s with toks := s.toks + 1 }) ho hd (wpAny_pure (hnew hfk _ ⟨_, _, ep + 1, Heap.get?_update_self _ ho (Obj.isFreed_of_dict (Obj.data_mapDictKeys hd _)),
      hc.mapDictKeys _, Obj.data_mapDictKeys hd _, hk.push hkey' _, ?_, ?_⟩ (Heap.SameBut.update ..))))))
    · have := hp.append hkey' ((intKind PW W0).hash k) dflt
      obtain ⟨l⟩ := es
      simpa using this
    · rw [List.map_append, List.nodup_append]
      refine ⟨hn, by simp, ?_⟩
      intro a ha b hb
      simp only [List.map_cons, List.map_nil, List.mem_singleton] at hb
      subst hb
      exact fun e => hnot (e ▸ ha)
end
section
variable {A : Around} {E : Value → Shared → Prop} {env : Env} {m : Loc} {hp : Hp} {K : Frag}
theorem Gnd.big (G : Gnd K B0) : 3 < B0.heap.objs.size := by
  obtain ⟨mg, mb, h, _⟩ := G.top
  exact h.lt
theorem Rel.notSys {s : Shared} (r : Rel B0 hp s) (G : Gnd K B0) {d : Addr} {o : AO} (h : hp d = some o) : (d == sysModules) = false := by
  have h1 := (r.objs d o h).1
  have h2 := G.big
  have : d ≠ sysModules := fun e => by
    have h3 : B0.heap.objs.size ≤ 1 := by rw [e] at h1; exact h1
    lia
  simpa using this
theorem Rel.dict {s : Shared} (r : Rel B0 (hp.set env.locals (.ns m)) s) {d : Addr} {kvs : List (Int × AV)} (h : hp d = some (.dict kvs)) (hL : d ≠ env.locals) : ∃ ps, (∀ (_ : Program) (_ : World), s.heap.DictOf (intKind PW W0) d ps) ∧ KVR s.heap kvs ps := by
  refine hide fun Gq kq => ?_
  obtain ⟨ps, h1, h2, h3⟩ := r.at h hL
  refine kq ?_; clear kq Gq
  exact ⟨ps, fun _ _ => h1.dictOf PW W0, h2, h3⟩
theorem Rel.putDict {s : Shared} (r : Rel B0 (hp.set env.locals (.ns m)) s) {d : Addr} {kvs kvs' : List (Int × AV)} (h : hp d = some (.dict kvs)) (hL : d ≠ env.locals) {h' : Heap} {ps' : List (Int × Value)} (hd : h'.DictOf (intKind PW W0) d ps') (hs : Heap.SameBut d s.heap h') (hk : ImmLe s.heap h' → KVR h' kvs' ps') (t : Nat) :
    Rel B0 ((hp.set d (.dict kvs')).set env.locals (.ns m)) { s with heap := h', toks := t } ∧ ImmLe s.heap h' := by
  have x := r.turn (a := d) (Hp.snt hL h) hs (.dict kvs') (fun le => ⟨ps', IDict.of hd, (hk le).1, (hk le).2⟩) t
  rw [Hp.sc _ _ _ (Ne.symm hL)] at x
  exact x
theorem Zfz {pos} {Q : AV → Hp → Prop} (h : ∀ a, hp a = none → a ≠ env.locals → Q (.ref a) (hp.set a (.dict []))) : EV (model PW W0) B0 E A env (.Dict [] [] pos) m hp Q := fun s r => by
  have n := r.newAt { cls := .type "dict", data := .dict #[] } (.dict []) ⟨[], IDict.of (Heap.DictOf.new (knd := intKind PW W0) s.heap), rfl, by simp [VRs]⟩
  exact wpAny_Dict_empty ⟨.ref _, _, n.1, n.2.2.2, VR_ref, h _ n.2.1 n.2.2.1⟩
theorem Zb9 {h : Heap} {k : Int} {v : Value} (hv : VR h (.int k) v) : Value.isInt k v = true := by
  simp only [VR] at hv; obtain ⟨t, rfl⟩ := hv; simp [Value.isInt]
theorem Zna {value slice : Expr} {d : Addr} {kvs : List (Int × AV)} {k : Int} {x : AV} {Q : AV → Hp → Prop} (hd : hp d = some (.dict kvs)) (hL : d ≠ env.locals) (hx : dget kvs k = some x) (h : Q x hp)
    (hs : ∀ u, subscripted slice false (.ref d) (.int k u) = operate [.ref d, .int k u] (getItem (.ref d) (.int k u)) := by intro _; with_unfolding_all rfl) :
    SUB (model PW W0) B0 E A env value slice m (.ref d) (.int k) hp Q := fun s u v r hu hv => by
  simp only [VR] at hu; subst hu
  have hki := Zb9 hv
  simp only [VR] at hv; obtain ⟨t, rfl⟩ := hv
  obtain ⟨ps, hD, hK⟩ := r.dict hd hL
  obtain ⟨y, hy, hxy⟩ := (hK.get (k := k)).1 x hx
  have hT := (hD PW W0).typeIs (s := s)
  exact tail_any hT slot_dict_getitem.lookup (wpAny_getItem_of (knd := intKind PW W0) (k := k) hki (hD PW W0).mapOf hy ⟨x, hp, r.toks _, .refl _, hxy, h⟩) (hs _)
theorem Zl0 {o i : Expr} {pos} {v : AV} {Q : Loc → Hp → Prop}
    (h : EV (model PW W0) B0 E A env o m hp fun ov hp₁ => EV (model PW W0) B0 E A env i m hp₁ fun iv hp₂ => ∃ d kvs k, ov = .ref d ∧ iv = .int k ∧ hp₂ d = some (.dict kvs) ∧ d ≠ env.locals ∧ kvs.length ≤ 5000 ∧ Q m (hp₂.set d (.dict (dput kvs k v)))) : ASG (model PW W0) B0 E A env (.Subscript o i pos) v m hp Q := fun s u r hu => by
  rw [assign_Subscript]
  refine wpAny_bind (wpAny_holding (h.use r fun ov s₁ av hp₁ r₁ le₁ hov q => wpAny_bind (wpAny_holding (q.use r₁ fun iv s₂ bv hp₂ r₂ le₂ hiv x => wpAny_bind (wpAny_standAt (wpAny_bind (wpAny_holding ?_)))))))
  refine hide fun Gq kq => ?_
  obtain ⟨d, kvs, k, rfl, rfl, hd, hL, hlen, q⟩ := x
  have hki := Zb9 hiv
  simp only [VR] at hov; subst hov
  obtain ⟨ps, hD, hK⟩ := r₂.dict hd hL
  refine kq ?_; clear kq Gq
  have hu₂ := hu.mono (le₁.trans le₂)
  refine wpAny_setItem_pairs (knd := intKind PW W0) (k := k) hki (hD PW W0) (fun h' hD' hs' => ?_) (by rw [hK.length]; have := sizeLine_eq; (exact Nat.le_trans (by assumption) (by decide)))
  have x := r₂.putDict (kvs' := dput kvs k v) hd hL hD' hs' (fun le => KVR.put (hu₂.mono le) (hK.mono le)) (s₂.toks + 1)
  exact wpAny_release ⟨m, _, x.1, (le₁.trans le₂).trans x.2, q⟩
theorem Zil {o e : Expr} {rest : List Expr} {name : PySem.Str} {id T : String} {apos pos} {pl : Sem Bool} {Q : AV → Hp → Prop} (slot : Slot T name id) (hty : typeOf (.builtin id) = pure (.type "method_descriptor")) (hpl : PlainAttrs T)
    (h : EV (model PW W0) B0 E A env o m hp fun l hp₁ => ∃ a, l = .ref a ∧ (∀ s, Rel B0 (hp₁.set env.locals (.ns m)) s → ∃ ob, s.heap.get? a = some ob ∧ ob.cls = .type T ∧ ob.dict = none) ∧ EVS (model PW W0) B0 E A env (e :: rest) m hp₁ fun vs hp₂ => CL (model PW W0) B0 E A env (.builtin id) m (.ref a :: vs) hp₂ Q)
    (hc : eval (.Call (.Attribute o name apos) (e :: rest) [] pos) env = (do
      let ov ← eval o env
      standAt apos.atName
      let (f, first) ← holding [ov] (getMethod ov name pl)
      callWith pos f first (backTo pos (starEach (e :: rest) env)) []) := by rfl)
    (he : starEach (e :: rest) env = (false, eval e env) :: starEach rest env := by rfl) (hplain : (backTo pos (starEach rest env)).any (·.1) = false := by rfl) :
    EV (model PW W0) B0 E A env (.Call (.Attribute o name apos) (e :: rest) [] pos) m hp Q := fun s r => by
  refine MethodCall_ (pl := pl) (h.use r fun u s₁ l hp₁ r₁ le₁ hu x => ?_) hc
  refine hide fun Gq kq => ?_
  obtain ⟨a, rfl, ht, q⟩ := x
  simp only [VR] at hu; subst hu
  obtain ⟨ob, ho, hcl, hdn⟩ := ht s₁ r₁
  refine kq ?_; clear kq Gq
  refine getMethod_builtin ⟨ob, ho, hcl⟩ hpl slot hty (fun b e => by cases e; exact ⟨ob, ho, hdn⟩) ?_
  refine callWith_method1 (Zc3 (q pos s₁ r₁) fun vs s₂ avs hp₂ r₂ le₂ hv q => ?_) he hplain
  exact useV (q s₂ (.ref a :: vs) r₂ (by simp only [VRs]; exact ⟨_, _, rfl, VR_ref, hv⟩)) fun v s₃ av hp₃ r₃ le₃ hv q => mkV r₃ ((le₁.trans le₂).trans le₃) hv q
theorem Zkk {d : Addr} {kvs : List (Int × AV)} (hd : hp d = some (.dict kvs)) (hL : d ≠ env.locals) : ∀ s, Rel B0 (hp.set env.locals (.ns m)) s → ∃ ob, s.heap.get? d = some ob ∧ ob.cls = .type "dict" ∧ ob.dict = none := fun s r => by
  refine hide fun Gq kq => ?_
  obtain ⟨ps, ⟨o, es, ep, ho, hc, _⟩, _⟩ := r.at hd hL
  refine kq ?_; clear kq Gq
  exact ⟨o, ho, hc.1, hc.2.1⟩
theorem Zpj {d : Addr} {kvs : List (Int × AV)} {k : Int} {dv : AV} {Q : AV → Hp → Prop} (G : Gnd K B0) (hd : hp d = some (.dict kvs)) (hL : d ≠ env.locals) (h : Q ((dget kvs k).getD dv) hp) : CL (model PW W0) B0 E A env (.builtin "dict.get") m [.ref d, .int k, dv] hp Q := fun s vs r hv => by
  obtain ⟨v, u, x, rfl, h1, h2, h3⟩ : ∃ u v x, vs = [u, v, x] ∧ VR s.heap (.ref d) u ∧ VR s.heap (.int k) v ∧ VR s.heap dv x := by
    simp only [VRs] at hv; obtain ⟨v, r, rfl, h1, u, r', rfl, h2, z, r'', rfl, h3, rfl⟩ := hv; exact ⟨_, _, _, rfl, h1, h2, h3⟩
  have hki := Zb9 h2
  simp only [VR] at h1; subst h1
  obtain ⟨ps, hD, hK⟩ := r.dict hd hL
  refine call_meetsIn F.slot_dict_get (hD PW W0).typeIs F.entry_dict_get (F.args_dict_get_3 _ _ _) (meets_dict_get_default (intKind PW W0) d (k := k) hki (r.notSys G (Hp.snt hL hd)) x) ⟨_, (hD PW W0).mapOf, ?_⟩
  refine mkV (r.toks _) (.refl _) (?_) h
  have hg := hK.get (k := k)
  cases e : dget kvs k with
  | none => rw [hg.2 e]; exact h3
  | some y => obtain ⟨z, hz, hyz⟩ := hg.1 y e; rw [hz]; exact hyz
theorem Zez {d : Addr} {kvs : List (Int × AV)} {k : Int} {dv : AV} {Q : AV → Hp → Prop} (G : Gnd K B0) (hd : hp d = some (.dict kvs)) (hL : d ≠ env.locals) (hlen : kvs.length ≤ 5000)
    (h : Q ((dget kvs k).getD dv) (if (dget kvs k).isSome then hp else hp.set d (.dict (kvs ++ [(k, dv)])))) : CL (model PW W0) B0 E A env (.builtin "dict.setdefault") m [.ref d, .int k, dv] hp Q := fun s vs r hv => by
  obtain ⟨v, u, x, rfl, h1, h2, h3⟩ : ∃ u v x, vs = [u, v, x] ∧ VR s.heap (.ref d) u ∧ VR s.heap (.int k) v ∧ VR s.heap dv x := by
    simp only [VRs] at hv; obtain ⟨v, r, rfl, h1, u, r', rfl, h2, z, r'', rfl, h3, rfl⟩ := hv; exact ⟨_, _, _, rfl, h1, h2, h3⟩
  have hki := Zb9 h2
  simp only [VR] at h1; subst h1
  obtain ⟨ps, hD, hK⟩ := r.dict hd hL
  have hsys := r.notSys G (show (hp.set env.locals (.ns m)) d = some (.dict kvs) by rw [Hp.sn _ _ hL]; exact hd)
  refine wpAny_call_entry F.slot_dict_setdefault (hD PW W0).typeIs F.entry_dict_setdefault ?_ (F.args_dict_setdefault_3 _ _ _)
  unfold Builtin.«dict.setdefault»
  refine wpAny_bind ?_
  unfold Builtin.Dict.keyAndDefault
  refine wpAny_bind (wpAny_notOrdered_dict (hD PW W0).typeIs ?_)
  show wpAny _ _ (pure (d, u, some x)) _ _ s
  refine wpAny_pure ?_
  show wpAny _ _ (if (d == sysModules) = true then _ else (dictSetDefault d u x >>= _)) _ _ s
  rw [if_neg (by rw [hsys]; exact Bool.false_ne_true)]
  have hg := hK.get (k := k)
  refine wpAny_bind (Zd1 (k := k) hki (hD PW W0) (fun y hy => ?_) (fun hn h' hD' hs' => ?_) (by rw [hK.length]; have := sizeLine_eq; (exact Nat.le_trans (by assumption) (by decide))))
  · refine wpAny_pure ⟨_, rfl, ?_⟩
    cases e : dget kvs k with
    | none => rw [hg.2 e] at hy; cases hy
    | some z =>
      obtain ⟨z', hz', hzz⟩ := hg.1 z e
      rw [hz'] at hy; cases hy
      rw [e] at h
      exact mkV (r.toks _) (.refl _) hzz h
  · refine wpAny_pure ⟨_, rfl, ?_⟩
    cases e : dget kvs k with
    | some z => obtain ⟨z', hz', _⟩ := hg.1 z e; rw [hn] at hz'; cases hz'
    | none =>
      rw [e] at h
      have t := r.putDict (kvs' := kvs ++ [(k, dv)]) hd hL hD' hs' (fun le => KVR.append (h3.mono le) (hK.mono le)) (s.toks + 1)
      exact mkV t.1 t.2 (h3.mono t.2) h
theorem Zqt {d : Addr} {kvs : List (Int × AV)} {k : Int} {Q : AV → Hp → Prop} (G : Gnd K B0) (hd : hp d = some (.dict kvs)) (hL : d ≠ env.locals) (h : Q (.bool (dget kvs k).isSome) hp) : OP2 (model PW W0) B0 E A env (compareOp .In) m (.int k) (.ref d) hp Q := fun s u v r hu hv => by
  have hki := Zb9 hu
  simp only [VR] at hv; subst hv
  obtain ⟨ps, hD, hK⟩ := r.dict hd hL
  have hsys := r.notSys G (show (hp.set env.locals (.ns m)) d = some (.dict kvs) by rw [Hp.sn _ _ hL]; exact hd)
  refine wpAny_in_of (knd := intKind PW W0) (k := k) hki hsys (hD PW W0).mapOf ?_
  refine mkV (r.toks _) (.refl _) (?_) h
  have hg := hK.get (k := k)
  have : (valueAt ps k).isSome = (dget kvs k).isSome := by
    cases e : dget kvs k with
    | none => rw [hg.2 e]; rfl
    | some y => obtain ⟨z, hz, _⟩ := hg.1 y e; rw [hz]; rfl
  rw [this]; exact VR_bool
end
section
variable {A : Around} {E : Value → Shared → Prop} {env : Env} {m : Loc} {hp : Hp} {K : Frag}
noncomputable abbrev Zi6 (B0 : Shared) (env : Env) (m : Loc) (T : String) (id : String) (Q : AV → Hp → Prop) : AV → Hp → Prop := fun v hp₁ => ∃ a, v = .ref a ∧ (∀ s, Rel B0 (hp₁.set env.locals (.ns m)) s → ∃ ob, s.heap.get? a = some ob ∧ ob.cls = .type T ∧ ob.dict = none ∧ ∀ c, ob.data ≠ .cls c) ∧ ∀ x, hp₁ x = none → x ≠ env.locals → Q (.ref x) (hp₁.set x (.obj (Zbc id a)))
theorem Znm {o : Expr} {name : PySem.Str} {pos} {T id gid : String} {Q : AV → Hp → Prop} (b : BndOk T name id gid)
    (hck : ∀ {A : Around} {a : Addr} {s : Shared} {o : Obj} {Q : Value → Shared → Prop}, s.heap.get? a = some o → o.cls = .type T → Q (.ref s.heap.objs.size) { s with heap := s.heap.push (Zbc id a) } → wpAny (model PW W0) A (call (.builtin "method_descriptor.__get__") [.builtin id, .ref a, .type T]) Q (fun _ _ => False) s)
    (h : EV (model PW W0) B0 E A env o m hp (Zi6 B0 env m T id Q))
    (he : eval (.Attribute o name pos) env = (do
      let ov ← eval o env
      standAt pos.atName
      let r ← holding [ov] (getAttr ov name true)
      letTemporaryGo o ov r
      pure r) := by with_unfolding_all rfl) (ht : ∀ ov r, letTemporaryGo o ov r = pure () := by intro _ _; rfl) :
    EV (model PW W0) B0 E A env (.Attribute o name pos) m hp Q := fun s r => by
  rw [he]
  refine wpAny_bind (h.use r fun v s₁ av hp₁ r₁ le₁ hv x => wpAny_bind (wpAny_standAt (wpAny_bind (wpAny_holding ?_))))
  refine hide fun Gq kq => ?_
  obtain ⟨a, rfl, hty, q⟩ := x
  simp only [VR] at hv; subst hv
  obtain ⟨ob, ho, hcl, hdn, hn⟩ := hty s₁ r₁
  refine kq ?_; clear kq Gq
  refine Zde b ho hcl hdn hn (fun ho hc h => hck ho hc h) ?_
  have n := r₁.newAt (Zbc id a) (.obj (Zbc id a)) ⟨Heap.get?_push_size _ rfl, bndOb_notImm⟩
  rw [ht]
  exact wpAny_bind (wpAny_pure (wpAny_pure (mkV (av := .ref _) (n.1.toks _) (le₁.trans n.2.2.2) VR_ref (q _ n.2.1 n.2.2.1))))
theorem Zh2 {d : Addr} {kvs : List (Int × AV)} (hd : hp d = some (.dict kvs)) (hL : d ≠ env.locals) : ∀ s, Rel B0 (hp.set env.locals (.ns m)) s → ∃ ob, s.heap.get? d = some ob ∧ ob.cls = .type "dict" ∧ ob.dict = none ∧ ∀ c, ob.data ≠ .cls c := fun s r => by
  refine hide fun Gq kq => ?_
  obtain ⟨ps, ⟨o, es, ep, ho, hc, hdt, _⟩, _⟩ := r.at hd hL
  refine kq ?_; clear kq Gq
  exact ⟨o, ho, hc.1, hc.2.1, fun c => by rw [hdt]; simp⟩
theorem Zkj {d : Addr} {f : Int → Bool} {n : Nat} (hd : hp d = some (.set f n)) (hL : d ≠ env.locals) : ∀ s, Rel B0 (hp.set env.locals (.ns m)) s → ∃ ob, s.heap.get? d = some ob ∧ ob.cls = .type "set" ∧ ob.dict = none ∧ ∀ c, ob.data ≠ .cls c := fun s r => by
  refine hide fun Gq kq => ?_
  obtain ⟨o, es, ep, t, ho, hc, hdt, _⟩ := r.at hd hL
  refine kq ?_; clear kq Gq
  exact ⟨o, ho, hc.1, hc.2.1, fun c => by rw [hdt]; simp⟩
theorem Zfs {M : Model} {s : Shared} {pos : Pos} {u a : Addr} {id : String} {args : List (Bool × Sem Value)} {Q : Value → Shared → Prop} (hplain : args.any (·.1) = false)
    (h : wpAny M A (evalArgs (.ref u) true args []) (fun x s₁ => s₁.heap.get? u = some (Zbc id a) ∧ wpAny M A (call (.ref u) ([] ++ x.pos) x.kw) Q E s₁) E s) : wpAny M A (callWith pos (.ref u) [] args []) Q E s := by
  unfold callWith
  refine wpAny_bind (wpAny_holding (wpAny_mono h (fun x s₁ h₁ => wpAny_bind (wpAny_standAt ?_)) fun _ _ x => x))
  obtain ⟨ho, hcall⟩ := h₁
  simp -iota only [hplain, List.any_nil, Bool.or_false]
  refine wpAny_bind (m := keeperOf (.ref u)) ?_
  unfold keeperOf
  refine wpAny_bind (wpAny_load ho ?_)
  dsimp only [Zbc, show (Value.type "builtin_function_or_method" != Value.type "method") = true by decide, show (Value.type "builtin_function_or_method" == Value.type "builtin_function_or_method" || Value.type "builtin_function_or_method" == Value.type "method-wrapper") = true by decide, if_true]
  refine wpAny_pure ?_
  exact wpAny_bind (wpAny_mono hcall (fun r s₂ hr => wpAny_bind (wpAny_holding (wpAny_point (wpAny_pure hr)))) fun _ _ x => x)
theorem Zgh {M : Model} {s : Shared} {pos : Pos} {u a : Addr} {id : String} {e : Expr} {rest : List Expr} {Q : Value → Shared → Prop}
    (h : wpAny M A (spliced (backTo pos (starEach (e :: rest) env))) (fun vs s₁ => s₁.heap.get? u = some (Zbc id a) ∧ wpAny M A (call (.ref u) vs) Q E s₁) E s)
    (he : starEach (e :: rest) env = (false, eval e env) :: starEach rest env) (hplain : (backTo pos (starEach rest env)).any (·.1) = false) :
    wpAny M A (callWith pos (.ref u) [] (backTo pos (starEach (e :: rest) env)) []) Q E s := by
  rw [he] at h ⊢
  refine Zfs (id := id) (a := a) (by show (false || (backTo pos (starEach rest env)).any (·.1)) = false; rw [hplain]; rfl) ?_
  exact evalArgs_plain h
noncomputable abbrev Zgv (PW : Program) (W0 : World) (A : Around) (E : Value → Shared → Prop) (B0 : Shared) (env : Env) (m : Loc) (e : Expr) (rest : List Expr) (id : String) (Q : AV → Hp → Prop) : AV → Hp → Prop := fun v hp₁ => ∃ b a, v = .ref b ∧ b ≠ env.locals ∧ EVS (model PW W0) B0 E A env (e :: rest) m hp₁ fun vs hp₂ => hp₂ b = some (.obj (Zbc id a)) ∧ CL (model PW W0) B0 E A env (.ref b) m vs hp₂ Q
theorem Zcj {func e : Expr} {rest : List Expr} {pos} {id : String} {Q : AV → Hp → Prop}
    (h : EV (model PW W0) B0 E A env func m hp (Zgv PW W0 A E B0 env m e rest id Q))
    (hc : eval (.Call func (e :: rest) [] pos) env = (do callWith pos (← eval func env) [] (backTo pos (starEach (e :: rest) env)) (backToKw pos (keywordEach [] env))) := by rfl)
    (he : starEach (e :: rest) env = (false, eval e env) :: starEach rest env := by rfl) (hplain : (backTo pos (starEach rest env)).any (·.1) = false := by rfl) :
    EV (model PW W0) B0 E A env (.Call func (e :: rest) [] pos) m hp Q := fun s r => by
  refine Call_ (h.use r fun u s₁ v hp₁ r₁ le₁ hu x => ?_) hc
  refine hide fun Gq kq => ?_
  obtain ⟨b, a, rfl, hbL, q⟩ := x
  refine kq ?_; clear kq Gq
  simp only [VR] at hu; subst hu
  refine Zgh (id := id) (a := a) (Zc3 (q pos s₁ r₁) fun vs s₂ avs hp₂ r₂ le₂ hv ⟨hb, q⟩ => ⟨(r₂.at hb hbL).1, ?_⟩) he hplain
  exact useV (q s₂ vs r₂ hv) fun v s₃ av hp₃ r₃ le₃ hv q => mkV r₃ ((le₁.trans le₂).trans le₃) hv q
theorem Zib {s : Shared} {x a : Addr} {id : String} {bt : Builtin} {vs : List Value} {Q : Value → Shared → Prop} (ho : s.heap.get? x = some (Zbc id a)) (hq : (Code.builtin id ⟨.ref a :: vs, []⟩).quiet = true) (he : entryFor table id = some bt) (hpl : plainId id = true)
    (hck : ∀ (Q : Unit → Shared → Prop) (E : Value → Shared → Prop) (A : Around), Q () s → wpAny (model PW W0) A (checkBoundCall id ⟨.ref a :: vs, []⟩) Q E s)
    (tree : wpAny (model PW W0) A.in1 (bt ⟨.ref a :: vs, []⟩) (fun fin s' => ∃ v, fin = .done (.ret v) ∧ Q v s') E s) : wpAny (model PW W0) A (call (.ref x) vs) Q E s := by
  refine wpAny_call (codeAny_of_tree ?_)
  show wpAny _ A.in1 (callAny (.ref x) ⟨vs, []⟩) _ _ s
  dsimp only [callAny]
  refine wpAny_bind (wpAny_load ho ?_)
  dsimp only [Zbc, show (Value.type "builtin_function_or_method" == Value.type "method" || Value.type "builtin_function_or_method" == Value.type "builtin_function_or_method" || Value.type "builtin_function_or_method" == Value.type "method-wrapper") = true by decide, if_true]
  refine KFB.if_so (by decide) ?_
  refine wpAny_bind (hck _ _ _ ?_)
  refine wpAny_bind (wpAny_pure (wpAny_pure ?_))
  refine ⟨hq, codeAny_builtin he ?_⟩
  rw [Around.under_plainId hpl]
  refine wpAny_mono tree (fun fin s' yq => ?_) fun _ _ x => x
  obtain ⟨v, e, q⟩ := yq
  subst e; exact q
theorem Zgg {s : Shared} {a : Addr} {T id : String} {o : Obj} {sig : Manifest.Signature} {vs : List Value} {Q : Unit → Shared → Prop} (ho : s.heap.get? a = some o) (hcl : o.cls = .type T) (hn : ∀ c, o.data ≠ .cls c) (hsig : Manifest.signature? id = some sig) (hk : builtinKind id = some .method) (hva : Manifest.varargsMethods.contains id = false)
    (hmod : isSubtype (.type T) (.type "module") = pure false) (hr : sig.receiver = .self)
    (hf : (toString (Bind.lastOf T) ++ toString "." ++ toString (Bind.lastOf id) != "*") = true) (hs : (sig.short != "*") = true)
    (hchk : ∀ full short f2, Bind.check { sig with full := f2 } full short vs.length [] = pure ()) (h : Q () s) : wpAny (model PW W0) A (checkBoundCall id ⟨.ref a :: vs, []⟩) Q E s := by
  have hT : s.TypeIs (.ref a) T := ⟨o, ho, hcl⟩
  unfold checkBoundCall
  simp only [hsig, hk]
  rw [if_neg (by decide)]
  refine wpAny_bind (wpAny_isInstance hT hmod ?_)
  rw [hva]
  simp only [Bool.or_false, Bool.false_eq_true, if_false]
  refine wpAny_bind ?_
  unfold isType loadHead
  refine wpAny_bind (wpAny_loadPart ho (wpAny_pure ?_))
  refine KFB.if_not ?_ ?_
  · cases e : o.data with
    | cls c => exact absurd e (hn c)
    | _ => rfl
  refine wpAny_bind (wpAny_typeOf hT ?_)
  dsimp only
  unfold Bind.checkArgs
  rw [hr]
  have hrn : (Manifest.Receiver.self == Manifest.Receiver.none) = false := by decide
  dsimp only [hrn, Bool.false_eq_true, if_false, List.map_nil, List.isEmpty_nil, List.head?_cons, List.length_cons, Nat.add_sub_cancel]
  have fin : wpAny (model PW W0) A (do
      let a1 ← Bind.printed (toString (Bind.lastOf T) ++ toString "." ++ toString (Bind.lastOf id)) true { sig with full := toString (Bind.lastOf T) ++ toString "." ++ toString (Bind.lastOf id), receiver := .self } (some (.ref a))
      let a2 ← Bind.printed sig.short false { sig with full := toString (Bind.lastOf T) ++ toString "." ++ toString (Bind.lastOf id), receiver := .self } (some (.ref a))
      (Bind.check { sig with full := toString (Bind.lastOf T) ++ toString "." ++ toString (Bind.lastOf id), receiver := .self } a1 a2 vs.length []).onRaise fun _ => do
        if (toString (Bind.lastOf T) ++ toString "." ++ toString (Bind.lastOf id)) == "*" || sig.short == "*" then
          if let some r := some (Value.ref a) then discard <| typeName (← Bind.receiverType { sig with full := toString (Bind.lastOf T) ++ toString "." ++ toString (Bind.lastOf id), receiver := .self } r)
        if ← Bind.nameInDoubt { sig with full := toString (Bind.lastOf T) ++ toString "." ++ toString (Bind.lastOf id), receiver := .self } (some (.ref a)) then unsupported "bind:dotted-class-name-under-the-short-mark") Q E s := by
    refine wpAny_bind (printed_name hf (wpAny_bind (printed_name hs ?_)))
    have := hchk (toString (Bind.lastOf T) ++ toString "." ++ toString (Bind.lastOf id)) sig.short (toString (Bind.lastOf T) ++ toString "." ++ toString (Bind.lastOf id))
    rw [← hr]
    rw [this]
    exact wpAny_onRaise (wpAny_pure h)
  cases hm : sig.machinery with
  | _ => rw [hm] at fin; exact fin
theorem Zo2 {full short f2 : String} : Bind.check ⟨.oneArg, f2, "__contains__", .self, [⟨"object", .posOnly, true⟩]⟩ full short 1 [] = pure () := by
  simp [Bind.check]
theorem Zpl {b d : Addr} {kvs : List (Int × AV)} {k : Int} {dv : AV} {Q : AV → Hp → Prop} (G : Gnd K B0) (hb : hp b = some (.obj (Zbc "dict.get" d))) (hbL : b ≠ env.locals) (hd : hp d = some (.dict kvs)) (hL : d ≠ env.locals) (h : Q ((dget kvs k).getD dv) hp) : CL (model PW W0) B0 E A env (.ref b) m [.int k, dv] hp Q := fun s vs r hv => by
  refine hide fun Gq kq => ?_
  obtain ⟨v, u, rfl, h1, h2⟩ := Zc7 hv
  have hki := Zb9 h1
  obtain ⟨ps, hD, hK⟩ := r.dict hd hL
  have hsys := r.notSys G (show (hp.set env.locals (.ns m)) d = some (.dict kvs) by rw [Hp.sn _ _ hL]; exact hd)
  obtain ⟨ob, ho, hcl, hdn, hn⟩ := Zh2 (m := m) hd hL s r
  refine kq ?_; clear kq Gq
  refine Zib (r.at hb hbL).1 (Code.quiet_builtin _ (by decide +kernel)) F.entry_dict_get (by decide +kernel) (fun Q E A hq => Zgg (sig := ⟨.positional, "dict.get", "get", .self, [⟨"key", .posOnly, true⟩, ⟨"default", .posOnly, false⟩]⟩) ho hcl hn (by kernel_rfl) (by kernel_rfl) (by decide +kernel) (by rw [isSubtype_type]; kernel_rfl) rfl (by decide +kernel) (by decide +kernel) (fun full short f2 => by first | rfl | kernel_rfl) hq) ?_
  show wpAny _ _ (dictGet d v >>= _) _ _ s
  refine wpAny_bind (wpAny_dictGet_of (knd := intKind PW W0) (k := k) hki (hD PW W0).mapOf ?_)
  have hg := hK.get (k := k)
  cases e : dget kvs k with
  | none =>
    rw [e] at h
    rw [hg.2 e]
    show wpAny _ _ (Builtin.Dict.missed d v >>= _) _ _ _
    exact wpAny_bind (wpAny_missed_other hsys (wpAny_pure ⟨u, rfl, dv, hp, r.toks _, .refl _, h2, h⟩))
  | some y =>
    refine hide fun Gq kq => ?_
    rw [e] at h
    obtain ⟨z, hz, hyz⟩ := hg.1 y e
    refine kq ?_; clear kq Gq
    rw [hz]
    exact wpAny_pure ⟨z, rfl, y, hp, r.toks _, .refl _, hyz, h⟩
theorem ISet.setOf {h : Heap} {a : Addr} {f : Int → Bool} {n : Nat} (x : ISet h a f n) : h.SetOf (intKind PW W0) a f n := by
  refine hide fun Gq kq => ?_
  obtain ⟨o, es, ep, t, h1, h2, h3, h4, h5, h6, h7, h8⟩ := x
  refine kq ?_; clear kq Gq
  exact ⟨o, es, ep, t, h1, h2, h3, h4, h5, h6, h7, h8⟩
theorem Zfr {s : Shared} {d : Addr} {f : Int → Bool} {n : Nat} {k : Int} {v : Value} {P : PySem.Fin → Shared → Prop} (hki : Value.isInt k v = true) (hsc : v.scannable = true) (hS : s.heap.SetOf (intKind PW W0) d f n)
    (h : P (.done (.ret (.bool (f k)))) { s with toks := s.toks + 1 }) : wpAny (model PW W0) A (Builtin.«frozenset.__contains__» ⟨[.ref d, v], []⟩) P E s := by
  unfold Builtin.«frozenset.__contains__» Builtin.Frozenset.oneOther
  simp only [List.isEmpty_nil, bind_assoc]
  unfold Builtin.Frozenset.addrOf Builtin.Frozenset.withSetAsKey setContains
  refine wpAny_bind (wpAny_pure ?_)
  try dsimp only
  refine wpAny_bind (wpAny_pure ?_)
  try dsimp only
  refine wpAny_bind (wpAny_tryCatch ?_)
  refine wpAny_holding ?_
  refine wpAny_bind ((intKind PW W0).pyHash (k := k) hki ?_)
  refine wpAny_bind (wpAny_setFind_of (knd := intKind PW W0) (k := k) (s := { s with toks := s.toks + 1 }) hki hsc hS fun rr hr => ?_)
  refine wpAny_pure ?_
  show wpAny _ _ (ret (Value.bool rr.isSome)) _ _ _
  rw [hr]
  exact wpAny_pure h
theorem Zju : Manifest.signature? "set.__contains__" = some ⟨.oneArg, "set.__contains__", "__contains__", .self, [⟨"object", .posOnly, true⟩]⟩ := by kernel_rfl
theorem Ziv : builtinKind "set.__contains__" = some .method := by kernel_rfl
theorem Zl4 : Manifest.varargsMethods.contains "set.__contains__" = false := by decide +kernel
theorem Zoo : isSubtype (.type "set") (.type "module") = pure false := by rw [isSubtype_type]; kernel_rfl
theorem Zmj : (toString (Bind.lastOf "set") ++ toString "." ++ toString (Bind.lastOf "set.__contains__") != "*") = true := by decide +kernel
theorem Zhc {s : Shared} {a : Addr} {o : Obj} {v : Value} {Q : Unit → Shared → Prop} (ho : s.heap.get? a = some o) (hcl : o.cls = .type "set") (hn : ∀ c, o.data ≠ .cls c) (h : Q () s) : wpAny (model PW W0) A (checkBoundCall "set.__contains__" ⟨.ref a :: [v], []⟩) Q E s := by
  have hs : (("__contains__" : String) != "*") = true := by decide
  have := @Zgg A E s a "set" "set.__contains__" o ⟨.oneArg, "set.__contains__", "__contains__", .self, [⟨"object", .posOnly, true⟩]⟩ [v] Q ho hcl hn Zju Ziv Zl4 Zoo rfl Zmj hs (fun full short f2 => Zo2) h
  exact this
theorem Zin {b d : Addr} {f : Int → Bool} {n : Nat} {k : Int} {Q : AV → Hp → Prop} (hb : hp b = some (.obj (Zbc "set.__contains__" d))) (hbL : b ≠ env.locals) (hd : hp d = some (.set f n)) (hL : d ≠ env.locals) (h : Q (.bool (f k)) hp) : CL (model PW W0) B0 E A env (.ref b) m [.int k] hp Q := fun s vs r hv => by
  refine hide fun Gq kq => ?_
  obtain ⟨v, rfl, h1⟩ := Zbo hv
  have hki := Zb9 h1
  have hsc : v.scannable = true := by simp only [VR] at h1; obtain ⟨t, rfl⟩ := h1; rfl
  have hS : s.heap.SetOf (intKind PW W0) d f n := ISet.setOf (r.at hd hL)
  obtain ⟨ob, ho, hcl, hdn, hn⟩ := Zkj (m := m) hd hL s r
  refine kq ?_; clear kq Gq
  refine Zib (r.at hb hbL).1 (Code.quiet_builtin _ (by decide +kernel)) entry_set_contains (by decide +kernel) (fun Q E A hq => Zhc ho hcl hn hq) ?_
  exact Zfr hki hsc hS ⟨_, rfl, .bool (f k), hp, r.toks _, .refl _, VR_bool, h⟩
theorem Zlq {func : Expr} {pos} {Q : AV → Hp → Prop}
    (h : EV (model PW W0) B0 E A env func m hp fun f hp₁ => f = .ty "set" ∧ ∀ a, hp₁ a = none → a ≠ env.locals → Q (.ref a) (hp₁.set a (.set (fun _ => false) 0)))
    (hc : eval (.Call func [] [] pos) env = (do callWith pos (← eval func env) [] (backTo pos (starEach [] env)) (backToKw pos (keywordEach [] env))) := by rfl) : EV (model PW W0) B0 E A env (.Call func [] [] pos) m hp Q := fun s r => by
  refine Call_ (h.use r fun u s₁ f hp₁ r₁ le₁ hu yq => ?_) hc
  obtain ⟨hf, q⟩ := yq
  subst hf; simp only [VR] at hu; subst hu
  refine PyProof.Rows.callWith_type0 (call_set_0 fun led => ?_)
  have n := r₁.newAt { cls := .type "set", dict := none, data := .set #[] 0 (.fresh 0 0 led) } (.set (fun _ => false) 0) ⟨_, #[], 0, _, Heap.get?_push_size _ rfl, ⟨rfl, rfl, rfl⟩, rfl, fun e he => by simp at he, fun k => by simp, by decide, by rfl, rfl⟩
  exact mkV (av := .ref _) n.1 (le₁.trans n.2.2.2) VR_ref (q _ n.2.1 n.2.2.1)
end
section
variable {A : Around} {E : Value → Shared → Prop} {env : Env} {m : Loc} {hp : Hp} {K : Frag}
theorem Zdp {test : Expr} {body : List Stmt} {pos} {Q : AF → Loc → Hp → Prop} (I : Nat → Loc → Hp → Prop) (n : Nat) (h0 : I n m hp)
    (turn : ∀ n m₂ hp₂, I n m₂ hp₂ → TST (model PW W0) B0 (fun _ _ => False) A env test m₂ hp₂ fun b hp₃ => if b then EXs (model PW W0) B0 (fun _ _ => False) A env body m₂ hp₃ fun fl m₄ hp₄ =>
        match fl with | .next | .cont => ∃ n', n' < n ∧ I n' m₄ hp₄ | .brk => Q .next m₄ hp₄ | .ret v => Q (.ret v) m₄ hp₄
      else Q .next m₂ hp₃) : EX (model PW W0) B0 E A env (.While test body [] pos) m hp Q := fun s r => by
  refine wpAny_While ?_
  refine codeAny_whileLoop (fun k s' => ∃ m₂ hp₂, I k m₂ hp₂ ∧ Rel B0 (hp₂.set env.locals (.ns m₂)) s' ∧ ImmLe s.heap s'.heap) (fun k s' x => ?_) n ⟨m, hp, h0, r, .refl _⟩
  refine hide fun Gq kq => ?_
  obtain ⟨m₂, hp₂, hI, r', le⟩ := x
  refine kq ?_; clear kq Gq
  refine Zpo (turn k m₂ hp₂ hI s' r') fun b s₂ hp₃ r₃ le₃ q => ?_
  cases b with
  | false =>
    rw [if_neg Bool.false_ne_true] at q ⊢
    exact wpAny_execs_nil ⟨.next, m₂, hp₃, r₃, le.trans le₃, rfl, q⟩
  | true =>
    rw [if_pos rfl] at q ⊢
    refine Zn3 (q s₂ r₃) fun fl s₄ af m₄ hp₄ r₄ le₄ hf q => ?_
    have leA : ImmLe s.heap s₄.heap := (le.trans le₃).trans le₄
    cases af with
    | next => cases hf; obtain ⟨n', hn', q⟩ := q; exact ⟨n', hn', m₄, hp₄, q, r₄, leA⟩
    | cont => cases hf; obtain ⟨n', hn', q⟩ := q; exact ⟨n', hn', m₄, hp₄, q, r₄, leA⟩
    | brk => cases hf; exact mkX (af := .next) r₄ leA rfl q
    | ret v => obtain ⟨u, rfl, hu⟩ := hf; exact mkX (af := .ret v) r₄ leA ⟨u, rfl, hu⟩ q
theorem Znb {a b : Addr} {Q : AV → Hp → Prop} (ha : ∀ s, Rel B0 (hp.set env.locals (.ns m)) s → ∃ ob, s.heap.get? a = some ob ∧ ob.cls = .type "list") (hb : ∀ s, Rel B0 (hp.set env.locals (.ns m)) s → ∃ ob, s.heap.get? b = some ob ∧ ob.cls = .type "list") (h : Q (.bool (a == b)) hp) : OP2 (model PW W0) B0 E A env (compareOp .Is) m (.ref a) (.ref b) hp Q := fun s u v r hu hv => by
  simp only [VR] at hu hv; subst hu; subst hv
  by_cases e : a = b
  · subst e
    exact wpAny_is_ref_self ⟨_, hp, r, .refl _, VR_bool, by simpa using h⟩
  · refine hide fun Gq kq => ?_
    obtain ⟨oa, ga, ca⟩ := ha s r
    obtain ⟨ob, gb, _⟩ := hb s r
    refine kq ?_; clear kq Gq
    refine wpAny_is_ref_other e ga gb (by rw [ca]; decide) ⟨_, hp, r, .refl _, VR_bool, ?_⟩
    rw [show (a == b) = false from by simpa using e] at h; exact h
theorem Rel.two {s : Shared} (r : Rel B0 hp s) {e it : Addr} {oe oi oe' oi' : Obj} (he : hp e = some (.obj oe)) (hi : hp it = some (.obj oi)) (hne : e ≠ it) {h' : Heap} (hk : ∀ b o, b ≠ e → b ≠ it → s.heap.get? b = some o → h'.get? b = some o)
    (hsz : s.heap.objs.size ≤ h'.objs.size) (ge : h'.get? e = some oe') (gi : h'.get? it = some oi') (ne : ¬ Imm oe') (ni : ¬ Imm oi') (t : Nat) : Rel B0 ((hp.set it (.obj oi')).set e (.obj oe')) { s with heap := h', toks := t } ∧ ImmLe s.heap h' := by
  have le : ImmLe s.heap h' := fun b ob eq i => by
    by_cases h1 : b = e
    · subst h1; exact absurd i ((r.objs _ _ he).2.notImm _ eq)
    · by_cases h2 : b = it
      · subst h2; exact absurd i ((r.objs _ _ hi).2.notImm _ eq)
      · exact hk b ob h1 h2 eq
  refine ⟨⟨fun b ob eq => ?_, fun a o eq => ?_, r.os, r.bare, Nat.le_trans r.size hsz⟩, le⟩
  · refine hk b ob (fun h => ?_) (fun h => ?_) (r.keep b ob eq)
    · subst h; exact absurd (Heap.lt_size eq) (Nat.not_lt.mpr (r.objs _ _ he).1)
    · subst h; exact absurd (Heap.lt_size eq) (Nat.not_lt.mpr (r.objs _ _ hi).1)
  · by_cases h1 : a = e
    · subst h1; rw [Hp.ss] at eq; cases eq; exact ⟨(r.objs _ _ he).1, ge, ne⟩
    · rw [Hp.sn _ _ h1] at eq
      by_cases h2 : a = it
      · subst h2; rw [Hp.ss] at eq; cases eq; exact ⟨(r.objs _ _ hi).1, gi, ni⟩
      · rw [Hp.sn _ _ h2] at eq
        exact ⟨(r.objs a o eq).1, (r.objs a o eq).2.here le fun o' e' => hk _ _ h1 h2 e'⟩
theorem Zq1 {target : Expr} {body : List Stmt} {it : Addr} {n : Nat} {el : Nat → AV} {J J' : Nat → Loc → Hp → Prop} {Q : AF → Loc → Hp → Prop} {R : Result → Shared → Prop} {s₀ : Shared}
    (next : ∀ i m₂ hp₂ s, i < n → J i m₂ hp₂ → Rel B0 (hp₂.set env.locals (.ns m₂)) s → ImmLe s₀.heap s.heap → ∀ (E' : Value → Shared → Prop) (W : Option Value → Shared → Prop),
      (∀ v s₁, (∀ U : Unit → Shared → Prop, (∀ s' hp', VR s'.heap (el i) v → Rel B0 (hp'.set env.locals (.ns m₂)) s' → ImmLe s.heap s'.heap → J' i m₂ hp' → U () s') → wpAny (model PW W0) A (letOwnedTupleGo target (.ref it) v) U E' s₁) → W (some v) s₁) → wpAny (model PW W0) A (pyNext (.ref it)) W E' s)
    (stop : ∀ m₂ hp₂ s, J n m₂ hp₂ → Rel B0 (hp₂.set env.locals (.ns m₂)) s → ImmLe s₀.heap s.heap → ∀ (E' : Value → Shared → Prop) (W : Option Value → Shared → Prop),
      (∀ s' hp', Rel B0 (hp'.set env.locals (.ns m₂)) s' → ImmLe s.heap s'.heap → Q .next m₂ hp' → W none s') → wpAny (model PW W0) A (pyNext (.ref it)) W E' s)
    (turn : ∀ i m₂ hp₂, i < n → J' i m₂ hp₂ → ASG (model PW W0) B0 (fun _ _ => False) A env target (el i) m₂ hp₂ fun m₃ hp₃ => EXs (model PW W0) B0 (fun _ _ => False) A env body m₃ hp₃ fun fl m₄ hp₄ =>
      match fl with | .next | .cont => J (i + 1) m₄ hp₄ | .brk => Q .next m₄ hp₄ | .ret v => Q (.ret v) m₄ hp₄)
    (hR : ∀ fl af m' hp' s', Rel B0 (hp'.set env.locals (.ns m')) s' → ImmLe s₀.heap s'.heap → FR s'.heap af fl → Q af m' hp' → R (.ok fl) s')
    {s : Shared} (h0 : J 0 m hp) (rel : Rel B0 (hp.set env.locals (.ns m)) s) (le₀ : ImmLe s₀.heap s.heap) :
    codeAny (model PW W0) A (.forLoop target (.ref it) body [] env) R s := by
  refine codeAny_forLoop_any (fun k s' => ∃ i m₂ hp₂, k = n - i ∧ i ≤ n ∧ J i m₂ hp₂ ∧ Rel B0 (hp₂.set env.locals (.ns m₂)) s' ∧ ImmLe s₀.heap s'.heap) (fun k s' x => ?_) n ⟨0, m, hp, rfl, Nat.zero_le _, h0, rel, le₀⟩
  refine hide fun Gq kq => ?_
  obtain ⟨i, m₂, hp₂, rfl, hi, hJ, r, le⟩ := x
  refine kq ?_; clear kq Gq
  rcases Nat.lt_or_eq_of_le hi with hlt | rfl
  · refine next i m₂ hp₂ s' hlt hJ r le _ _ fun v s₁ k => k _ fun s₂ hp' hv r₂ le₂ hJ' => ?_
    refine wpAny_mono (turn i m₂ hp' hlt hJ' _ v r₂ hv) (fun _ s₃ x => ?_) fun _ _ x => x.elim
    refine hide fun Gq kq => ?_
    obtain ⟨m₃, hp₃, r₃, le₃, q⟩ := x
    refine kq ?_; clear kq Gq
    refine wpAny_mono (q s₃ r₃) (fun fl s₄ x => ?_) fun _ _ x => x.elim
    refine hide fun Gq kq => ?_
    obtain ⟨af, m₄, hp₄, r₄, le₄, hf, q⟩ := x
    refine kq ?_; clear kq Gq
    have leAll : ImmLe s₀.heap s₄.heap := ((le.trans le₂).trans le₃).trans le₄
    cases af with
    | next => cases hf; exact ⟨n - (i + 1), Zbt hlt, i + 1, m₄, hp₄, rfl, hlt, q, r₄, leAll⟩
    | cont => cases hf; exact ⟨n - (i + 1), Zbt hlt, i + 1, m₄, hp₄, rfl, hlt, q, r₄, leAll⟩
    | brk => cases hf; exact hR _ .next _ _ _ r₄ leAll rfl q
    | ret v => obtain ⟨u, rfl, hu⟩ := hf; exact hR _ (.ret v) _ _ _ r₄ leAll ⟨u, rfl, hu⟩ q
  · exact stop m₂ hp₂ s' hJ r le _ _ fun s'' hp' r' le' q => wpAny_execs_nil (hR _ .next _ _ _ r' (le.trans le') rfl q)
noncomputable abbrev Zsd (PW : Program) (W0 : World) (A : Around) (B0 : Shared) (env : Env) (ta : Expr) (body : List Stmt) (m : Loc) (hp₂ : Hp) (Q : AF → Loc → Hp → Prop) (a : Addr) (xs : List AV) (it en : Addr) : Prop :=
  ∃ I : Nat → Loc → Hp → Prop, (∀ o1 o2, I 0 m ((hp₂.set it (.obj o1)).set en (.obj o2))) ∧ (∀ i m₂ hp₂ ob, I i m₂ hp₂ → I i m₂ (hp₂.set it (.obj ob))) ∧ (∀ i m₂ hp₂ ob, I i m₂ hp₂ → I i m₂ (hp₂.set en (.obj ob))) ∧ (∀ i m₂ hp₂, I i m₂ hp₂ → Lst B0 hp₂ env.locals a xs) ∧
      (∀ i x m₂ hp₂ o1 o2, xs[i]? = some x → I i m₂ hp₂ → hp₂ it = some (.obj o1) → hp₂ en = some (.obj o2) → ASG (model PW W0) B0 (fun _ _ => False) A env ta (.tup [.int i, x]) m₂ hp₂ fun m₃ hp₃ => EXs (model PW W0) B0 (fun _ _ => False) A env body m₃ hp₃ fun fl m₄ hp₄ =>
        match fl with | .next | .cont => I (i + 1) m₄ hp₄ ∧ hp₄ it = some (.obj o1) ∧ hp₄ en = some (.obj o2) | .brk => Q .next m₄ hp₄ | .ret v => Q (.ret v) m₄ hp₄) ∧
      (∀ m₂ hp₂, I xs.length m₂ hp₂ → Q .next m₂ (hp₂.del it))
noncomputable abbrev enO (it : Addr) (i : Int) (old : Value) : Obj := { cls := .type "enumerate", data := .fields #[.none, .bool false, .ref it, rawInt i, .none, old] }
theorem enO_no {it i old} : ¬ Imm (enO it i old) := fun i => by obtain ⟨_, _, _, e⟩ := i; cases e
noncomputable abbrev liO (a : Addr) (i : Nat) (o : Obj) : Prop := o.cls = .type "list_iterator" ∧ o.data = .fields #[.ref a, .int i 0]
theorem Znv {a i o} (h : liO a i o) : ¬ Imm o := fun i => by obtain ⟨_, _, _, e⟩ := i; rw [h.2] at e; cases e
theorem Rel.none2 {s : Shared} (r : Rel B0 (hp.set env.locals (.ns m)) s) : (s.heap.objs.size ≠ env.locals ∧ hp s.heap.objs.size = none) ∧ s.heap.objs.size + 1 ≠ env.locals ∧ hp (s.heap.objs.size + 1) = none := by
  have one : ∀ x, s.heap.objs.size ≤ x → x ≠ env.locals ∧ hp x = none := fun x hx => by
    have no : ∀ o, (hp.set env.locals (.ns m)) x = some o → False := fun o e => absurd (r.lt e) (Nat.not_lt.mpr hx)
    have n1 : x ≠ env.locals := fun e => no _ (by rw [e, Hp.ss])
    refine ⟨n1, ?_⟩
    cases e : hp x with
    | none => rfl
    | some o => exact (no o (by rw [Hp.sn _ _ n1]; exact e)).elim
  exact ⟨one _ (Nat.le_refl _), one _ (Nat.le_succ _)⟩
theorem Zkv {a it en : Addr} {xs : List AV} {i : Nat} {x : AV} {o1 : Obj} {old : Value} {hp₂ : Hp} {m₂ : Loc} {s' : Shared} {elts : List Expr} {tk tpos} (r' : Rel B0 (hp₂.set env.locals (.ns m₂)) s') (n1 : it ≠ env.locals) (n2 : en ≠ env.locals) (hei : en ≠ it)
    (hit : hp₂ it = some (.obj o1)) (c1 : liO a i o1) (hen : hp₂ en = some (.obj (enO it (i : Int) old))) (hl : Lst B0 hp₂ env.locals a xs) (hx : xs[i]? = some x) (E' : Value → Shared → Prop) (W : Option Value → Shared → Prop)
    (hW : ∀ v s₁, (∀ U : Unit → Shared → Prop, (∀ s₂ hp', VR s₂.heap (.tup [.int i, x]) v → Rel B0 (hp'.set env.locals (.ns m₂)) s₂ → ImmLe s'.heap s₂.heap → (∃ oi v', liO a (i + 1) oi ∧ hp' = (hp₂.set it (.obj oi)).set en (.obj (enO it ((i + 1 : Nat) : Int) v'))) → U () s₂) → wpAny (model PW W0) A (letOwnedTupleGo (.Tuple elts tk tpos) (.ref en) v) U E' s₁) → W (some v) s₁) :
    wpAny (model PW W0) A (pyNext (.ref en)) W E' s' := by
  obtain ⟨vs', hl', hvs'⟩ := r'.lst hl
  obtain ⟨v, hv, hxv⟩ := hvs'.get hx
  refine wpAny_pyNext_enum_item (r'.at hen n2).1 ⟨o1, (r'.at hit n1).1, c1.1, c1.2⟩ hl' (by simpa using hv) hei fun h₁ heo hit₁ ht₁ hz₁ hk₁ => hW _ _ fun U hU => wpAny_letOwnedTupleGo_enum heo fun h₂ he₂ hs₂ => ?_
  obtain ⟨oi', gi', ci', di'⟩ := hit₁
  have t1 := r'.two (e := en) (it := it) (by rw [Hp.sn _ _ n2]; exact hen) (by rw [Hp.sn _ _ n1]; exact hit) hei hk₁ (by rw [hz₁]; exact Nat.le_succ _) heo gi' (fun i => by obtain ⟨_, _, _, e⟩ := i; cases e) (Znv ⟨ci', di'⟩) (s'.toks + 1)
  have t2 := t1.1.turn (a := en) (Hp.ss ..) hs₂ (.obj (enO it ((i : Int) + 1) v)) (fun _ => ⟨he₂, enO_no⟩) (s'.toks + 1)
  rw [Hp.set_set, Hp.sc _ _ _ (Ne.symm n1), Hp.sc _ _ _ (Ne.symm n2)] at t2
  have leT := t1.2.trans t2.2
  have htup : h₂.get? s'.heap.objs.size = some { cls := .type "tuple", data := .seq #[.int i s'.toks, v] } := t2.2 _ _ ht₁ ⟨.inl rfl, _, _, rfl⟩
  refine hU _ _ ?_ t2.1 leT ⟨oi', v, ⟨ci', di'⟩, rfl⟩
  simp only [VR, VRs]
  exact ⟨_, #[.int i s'.toks, v], rfl, ⟨_, htup, rfl, 0, rfl⟩, _, _, rfl, ⟨_, rfl⟩, _, _, rfl, hxv.mono leT, rfl⟩
theorem Zmx {s : Shared} {it en : Addr} {oi : Obj} {o2 : Obj} {h' : Heap} (r : Rel B0 (hp.set env.locals (.ns m)) { s with heap := h' }) (hit' : B0.heap.objs.size ≤ it) (hen' : it + 1 = en) (gi : h'.get? it = some oi) (ni : ¬ Imm oi) (ge : h'.get? en = some o2) (ne : ¬ Imm o2) :
    Rel B0 (((hp.set it (.obj oi)).set en (.obj o2)).set env.locals (.ns m)) { s with heap := h' } := by
  refine ⟨r.keep, fun z o e => ?_, r.os, r.bare, r.size⟩
  by_cases hzL : z = env.locals
  · subst hzL; rw [Hp.ss] at e; cases e; exact r.objs _ _ (Hp.ss ..)
  · rw [Hp.sn _ _ hzL] at e
    by_cases hze : z = en
    · subst hze; rw [Hp.ss] at e; cases e
      exact ⟨by rw [← hen']; exact Nat.le_succ_of_le hit', ge, ne⟩
    · rw [Hp.sn _ _ hze] at e
      by_cases hzi : z = it
      · subst hzi; rw [Hp.ss] at e; cases e
        exact ⟨hit', gi, ni⟩
      · rw [Hp.sn _ _ hzi] at e
        exact r.objs z o (by rw [Hp.sn _ _ hzL]; exact e)
theorem Zjh {elts : List Expr} {tk tpos} {func xe : Expr} {body : List Stmt} {cpos pos} {Q : AF → Loc → Hp → Prop} (hh : A.handled = none)
    (h : EV (model PW W0) B0 E A env func m hp fun f hp₁ => f = .ty "enumerate" ∧ EVS (model PW W0) B0 E A env [xe] m hp₁ fun vs hp₂ => ∃ a xs, vs = [.ref a] ∧ Lst B0 hp₂ env.locals a xs ∧ ∀ it en, hp₂ it = none → it ≠ env.locals → hp₂ en = none → en ≠ env.locals → en ≠ it →
      Zsd PW W0 A B0 env (.Tuple elts tk tpos) body m hp₂ Q a xs it en)
    (hc : eval (.Call func [xe] [] cpos) env = (do callWith cpos (← eval func env) [] (backTo cpos (starEach [xe] env)) (backToKw cpos (keywordEach [] env))) := by rfl)
    (he : starEach [xe] env = [(false, eval xe env)] := by rfl)
    (hs : ∀ x, foldedSetIterable (.Call func [xe] [] cpos) env x = pure x := by intro _; rfl) :
    EX (model PW W0) B0 E A env (.For (.Tuple elts tk tpos) (.Call func [xe] [] cpos) body [] pos) m hp Q := fun s r => by
  refine wpAny_For (Call_ (h.use r fun u s₁ f hp₁ r₁ le₁ hu x => ?_) hc) hs
  refine hide fun Gq kq => ?_
  obtain ⟨hf, q⟩ := x
  subst hf; simp only [VR] at hu; subst hu
  refine kq ?_; clear kq Gq
  refine PyProof.Rows.callWith_type1 (wpAny_mono (q cpos s₁ r₁) (fun vs s₂ x => ?_) fun _ _ x => x) he rfl
  refine hide fun Gq kq => ?_
  obtain ⟨avs, hp₂, r₂, le₂, hv, a, xs, rfl, hl, q⟩ := x
  obtain ⟨v, rfl, h1⟩ := Zbo hv
  simp only [VR] at h1; subst h1
  obtain ⟨us, hlst, hus⟩ := r₂.lst hl
  refine kq ?_; clear kq Gq
  refine call_enumerate_list hlst fun h' hen hit hz hk => ?_
  refine wpAny_pyIter_enum (s := { s₂ with heap := h' }) hen ?_
  refine hide fun Gq kq => ?_
  obtain ⟨⟨n1, f1⟩, n2, f2⟩ := r₂.none2
  have hei : s₂.heap.objs.size + 1 ≠ s₂.heap.objs.size := Nat.succ_ne_self _
  obtain ⟨oi, gi, ci, di⟩ := hit
  have gr := r₂.grown hk s₂.toks
  have hlo := r₂.size
  generalize s₂.heap.objs.size = it at *
  generalize hen' : it + 1 = en at *
  obtain ⟨I, i0, iset, jset, ilst, iturn, ifin⟩ := q it en f1 n1 f2 n2 hei
  refine kq ?_; clear kq Gq
  refine Zq1 (n := xs.length) (el := fun i => .tup [.int i, xs.getD i .none]) (s₀ := s) (J := fun i m₂ hp₂ => I i m₂ hp₂ ∧ ∃ o1 old, liO a i o1 ∧ hp₂ it = some (.obj o1) ∧ hp₂ en = some (.obj (enO it ((i : Nat) : Int) old)))
    (J' := fun i m₂ hp₂ => I i m₂ hp₂ ∧ ∃ o1 old, liO a (i + 1) o1 ∧ hp₂ it = some (.obj o1) ∧ hp₂ en = some (.obj (enO it ((i + 1 : Nat) : Int) old))) (Q := Q)
    (fun i m₂ hp₂ s' hi hJ r' le E' W hW => ?_) (fun m₂ hp₂ s' hJ r' le E' W hW => ?_) (fun i m₂ hp₂ hi hJ => ?_) (fun fl af m' hp' s' r' le' hf q => mkX (af := af) r' le' hf q)
    ⟨i0 _ _, oi, .none, ⟨ci, di⟩, by rw [Hp.sn _ _ (Ne.symm hei), Hp.ss], Hp.ss ..⟩ (Zmx (s := s₂) gr.1 hlo hen' gi (Znv ⟨ci, di⟩) hen enO_no) ((le₁.trans le₂).trans gr.2)
  · refine hide fun Gq kq => ?_
    obtain ⟨hI, o1, old, hc1, h1, h2⟩ := hJ
    refine kq ?_; clear kq Gq
    refine Zkv (x := xs.getD i .none) r' n1 n2 hei h1 hc1 h2 (ilst _ _ _ hI) (by simp [List.getD, List.getElem?_eq_getElem hi]) E' W fun v s₁ k => hW v s₁ fun U hU => k U fun s₂ hp' hv r₂ le₂ ho => ?_
    refine hide fun Gq kq => ?_
    obtain ⟨oi, v', hoi, rfl⟩ := ho
    refine kq ?_; clear kq Gq
    exact hU s₂ _ hv r₂ le₂ ⟨jset _ _ _ _ (iset _ _ _ _ hI), oi, v', hoi, by rw [Hp.sn _ _ (Ne.symm hei), Hp.ss], Hp.ss ..⟩
  · refine hide fun Gq kq => ?_
    obtain ⟨hI, o1, old, hc1, h1, h2⟩ := hJ
    obtain ⟨vs', hl', hvs'⟩ := r'.lst (ilst _ _ _ hI)
    refine kq ?_; clear kq Gq
    refine wpAny_pyNext_enum_end hh (r'.at h2 n2).1 ⟨o1, (r'.at h1 n1).1, hc1.1, hc1.2⟩ hl' (Array.getElem?_eq_none (by rw [← Array.length_toList, hvs'.length]; exact Nat.le_refl _)) fun h'' hx => ?_
    refine hide fun Gq kq => ?_
    obtain ⟨r'', le''⟩ := r'.drop h1 n1 hx s'.toks
    refine kq ?_; clear kq Gq
    exact hW _ _ r'' le'' (ifin _ _ hI)
  · refine hide fun Gq kq => ?_
    obtain ⟨hI, o1, old, hc1, h1, h2⟩ := hJ
    refine kq ?_; clear kq Gq
    refine (iturn i _ m₂ hp₂ _ _ (by simp [List.getD, List.getElem?_eq_getElem hi]) hI h1 h2).mono fun m₃ hp₃ x => x.mono fun fl m₄ hp₄ y => ?_
    cases fl with
    | next => exact ⟨y.1, _, _, hc1, y.2⟩
    | cont => exact ⟨y.1, _, _, hc1, y.2⟩
    | brk => exact y
    | ret v => exact y
end
noncomputable def bindLA (kindOf : PySem.Str → Option NameKind) : List (PySem.Str × AV) → Loc → Loc
  | [], m => m
  | (n, v) :: r, m => bindLA kindOf r (if kindOf n = some .local then upd m n v else m)
noncomputable def Zdk (kindOf : PySem.Str → Option NameKind) : List (PySem.Str × AV) → Loc → Loc
  | [], m => m
  | (n, v) :: r, m => Zdk kindOf r (if kindOf n = some .local then m else upd m n v)
noncomputable def Za7 (hp : Hp) (cs : List (PySem.Str × Addr)) (cm : Loc) : Hp := fun a => match cs.find? (fun x => decide (x.2 = a)) with | some x => some (.cell (cm x.1)) | none => hp a
theorem Zej {h : Heap} {k : PySem.Str → Option NameKind} : ∀ {bs : List (PySem.Str × AV)} {us : List (PySem.Str × Value)} {m : Loc} {mv : PySem.Str → Option Value}, us.map (·.1) = bs.map (·.1) → VRs h (bs.map (·.2)) (us.map (·.2)) → LocR h m mv → LocR h (bindLA k bs m) (bindL k us mv)
  | [], us, m, mv, e, hv, x => by
    cases us with
    | nil => exact x
    | cons _ _ => simp at e
  | (n, v) :: bs, us, m, mv, e, hv, x => by
    cases us with
    | nil => simp at e
    | cons u us =>
      obtain ⟨n', u⟩ := u
      simp only [List.map_cons, List.cons.injEq, VRs] at e hv
      obtain ⟨rfl, e2⟩ := e
      obtain ⟨_, _, ⟨rfl, rfl⟩, h1, h2⟩ := hv
      unfold bindLA bindL
      refine Zej e2 h2 ?_
      split
      · exact x.upd h1
      · exact x
theorem Zek {h : Heap} {k : PySem.Str → Option NameKind} : ∀ {bs : List (PySem.Str × AV)} {us : List (PySem.Str × Value)} {m : Loc} {mv : PySem.Str → Option Value}, us.map (·.1) = bs.map (·.1) → VRs h (bs.map (·.2)) (us.map (·.2)) → LocR h m mv → LocR h (Zdk k bs m) (bindC k us mv)
  | [], us, m, mv, e, hv, x => by
    cases us with
    | nil => exact x
    | cons _ _ => simp at e
  | (n, v) :: bs, us, m, mv, e, hv, x => by
    cases us with
    | nil => simp at e
    | cons u us =>
      refine hide fun Gq kq => ?_
      obtain ⟨n', u⟩ := u
      simp only [List.map_cons, List.cons.injEq, VRs] at e hv
      obtain ⟨rfl, e2⟩ := e
      obtain ⟨_, _, ⟨rfl, rfl⟩, h1, h2⟩ := hv
      refine kq ?_; clear kq Gq
      unfold Zdk bindC
      refine Zek e2 h2 ?_
      split
      · exact x
      · exact x.upd h1
section
variable {A : Around} {E : Value → Shared → Prop} {env : Env} {m : Loc} {hp : Hp} {K : Frag}
theorem Rel.cell {s : Shared} (r : Rel B0 (hp.set env.locals (.ns m)) s) {c : Addr} {v : AV} (h : hp c = some (.cell (some v))) (hL : c ≠ env.locals) : ∃ u, s.heap.IsCell c (some u) ∧ VR s.heap v u := by
  refine hide fun Gq kq => ?_
  obtain ⟨o, u, ho, hd, x, rfl, hx⟩ := r.at h hL
  refine kq ?_; clear kq Gq
  exact ⟨x, ⟨o, ho, hd⟩, hx⟩
theorem Zax {x : PySem.Str} {pos} {c : Addr} {v : AV} {Q : AV → Hp → Prop} (hc : env.cells.lookup x = some c) (hv : hp c = some (.cell (some v))) (hcL : c ≠ env.locals) (h : Q v hp) (hk : env.scope.kind = .function := by rfl) (hl : env.kindOf x = some .cell := by rfl)
    (hd : (x == ("__debug__" : PySem.Str)) = false := by decide) : EV (model PW W0) B0 E A env (.Name x pos) m hp Q := fun s r => by
  obtain ⟨u, hu, hvu⟩ := r.cell hv hcL
  exact wpAny_Name (wpAny_loadName_cell hk hl hc hu ⟨v, hp, r, .refl _, hvu, h⟩) hd
theorem Ze2 {x : PySem.Str} {c : Addr} {v₀ : Option AV} {v : AV} {u : Value} {s : Shared} {W : Unit → Shared → Prop} (r : Rel B0 (hp.set env.locals (.ns m)) s) (hv : VR s.heap v u) (hc : env.cells.lookup x = some c) (hv₀ : hp c = some (.cell v₀)) (hcL : c ≠ env.locals)
    (k : ∀ s', Rel B0 ((hp.set c (.cell (some v))).set env.locals (.ns m)) s' → ImmLe s.heap s'.heap → W () s') (hk : env.scope.kind = .function := by rfl) (hl : env.kindOf x = some .cell := by rfl) : wpAny (model PW W0) A (storeName env x u) W E s := by
  refine hide fun Gq kq => ?_
  obtain ⟨o, u₀, ho, hd, _⟩ := r.at hv₀ hcL
  refine kq ?_; clear kq Gq
  refine wpAny_storeName_cell hk hl hc ⟨o, ho, hd⟩ fun h' hc' hs' => ?_
  refine hide fun Gq kq => ?_
  obtain ⟨o', ho', hd'⟩ := hc'
  refine kq ?_; clear kq Gq
  have t := r.turn (a := c) (Hp.snt hcL hv₀) hs' (.cell (some v)) (fun le => ⟨o', _, ho', hd', u, rfl, hv.mono le⟩) s.toks
  rw [Hp.sc _ _ _ (Ne.symm hcL)] at t
  exact k _ t.1 t.2
theorem Zf0 {x : PySem.Str} {pos} {c : Addr} {v₀ : Option AV} {v : AV} {Q : Loc → Hp → Prop} (hc : env.cells.lookup x = some c) (hv₀ : hp c = some (.cell v₀)) (hcL : c ≠ env.locals) (h : Q m (hp.set c (.cell (some v)))) (hk : env.scope.kind = .function := by rfl) (hl : env.kindOf x = some .cell := by rfl) :
    ASG (model PW W0) B0 E A env (.Name x pos) v m hp Q := fun s u r hu =>
  PyProof.Rows.assign_Name (Ze2 r hu hc hv₀ hcL (fun s' r' le => mkA r' le h) hk hl)
noncomputable abbrev Zgr (m : Loc) (c : Addr) (Q : AF → Loc → Hp → Prop) : AV → Hp → Prop := fun v hp' => ∃ v₀, hp' c = some (.cell v₀) ∧ Q .next m (hp'.set c (.cell (some v)))
theorem Zdu {x : PySem.Str} {value : Expr} {pos pos'} {c : Addr} {Q : AF → Loc → Hp → Prop} (hc : env.cells.lookup x = some c) (hcL : c ≠ env.locals) (h : EV (model PW W0) B0 E A env value m hp (Zgr m c Q))
    (hs : swapsWith value (some (.Name x pos')) pos.line env = pure false := by rfl) (hk : env.scope.kind = .function := by rfl) (hl : env.kindOf x = some .cell := by rfl) : EX (model PW W0) B0 E A env (.Assign [.Name x pos'] value pos) m hp Q := fun s r =>
  wpAny_Assign_Name (h.use r fun u s₁ v hp₁ r₁ le₁ hu ⟨v₀, hv₀, q⟩ => Ze2 r₁ hu hc hv₀ hcL (fun s' r' le => mkX (af := .next) r' (le₁.trans le) rfl q) hk hl) hs
theorem Zio {f : Addr} {fd : FuncData} {body : List Stmt} {avs : List AV} {bs : List (PySem.Str × AV)} {Q : AV → Hp → Prop} (G : Gnd K B0) (ho : K.lookup f = some ⟨.type "function", none, .func fd, #[]⟩) (hcd : codeIn K fd.code fd.qualname = true)
    (hbody : fd.body = .stmts body) (hroom : A.depth < recursionLimit) (hclo : fd.closure = [])
    (hbind : ∀ (s : Shared) vs, VRs s.heap avs vs → ∃ us : List (PySem.Str × Value), bindArgs fd ⟨vs, []⟩ = pure us ∧ us.map (·.1) = bs.map (·.1) ∧ VRs s.heap (bs.map (·.2)) (us.map (·.2)))
    (hkind : ∀ L, ∀ x ∈ bs, fd.scope.names.lookup x.1 = some .local ∨ (fd.scope.names.lookup x.1 = some .cell ∧ ((cellsFrom (L + 1) fd.scope.names []).lookup x.1).isSome = true))
    (h : ∀ L, hp L = none → L ≠ env.locals → (∀ n c, (n, c) ∈ cellsFrom (L + 1) fd.scope.names [] → hp c = none ∧ c ≠ env.locals ∧ c ≠ L) →
      EXs (model PW W0) B0 (fun _ _ => False) (A.deeper (callEnvC fd L f)) (callEnvC fd L f) body (bindLA (callEnvC fd L f).kindOf bs fun _ => none) (Za7 (hp.set env.locals (.ns m)) (cellsFrom (L + 1) fd.scope.names []) (Zdk (callEnvC fd L f).kindOf bs fun _ => none)) (RET L env m Q))
    (hnd : ∀ L, ∀ n c, (n, c) ∈ cellsFrom (L + 1) fd.scope.names [] → (cellsFrom (L + 1) fd.scope.names []).lookup n = some c)
    (hco : fd.scope.isCoroutine = false := by rfl) (hgen : fd.scope.isGenerator = false := by rfl) (hk : fd.scope.kind = .function := by rfl) :
    CD (model PW W0) B0 E A env (.ref f) m avs hp Q := fun s vs r hv => by
  refine hide fun Gq kq => ?_
  obtain ⟨us, hb, e1, e2⟩ := hbind s vs hv
  refine kq ?_; clear kq Gq
  have hkd : ∀ x ∈ us, fd.scope.names.lookup x.1 = some .local ∨ (fd.scope.names.lookup x.1 = some .cell ∧ ((cellsFrom (s.heap.objs.size + 1) fd.scope.names []).lookup x.1).isSome = true) := fun x hx => by
    have : x.1 ∈ bs.map (·.1) := by rw [← e1]; exact List.mem_map_of_mem hx
    obtain ⟨y, hy, e⟩ := List.mem_map.mp this
    rw [← e]; exact hkind _ y hy
  refine codeAny_call_cells hroom (r.keep _ _ (G.X _ _ ho)) rfl (G.lim.keeps r.keep) (codeRec_of (G.X.keeps r.keep) hcd) hbody hb hclo hkd (fun s₁ x => ?_) hco hgen hk
  refine hide fun Gq kq => ?_
  obtain ⟨⟨⟨h₁, tk₁, rfl⟩, xns, xk, xf⟩, xc, xa, xab⟩ := x
  refine kq ?_; clear kq Gq
  have le : ImmLe s.heap h₁ := ImmLe.keep xk
  generalize hLL : s.heap.objs.size = L at *
  change h₁.Ns L _ at xns
  have fresh : ∀ a, L ≤ a → (hp.set env.locals (.ns m)) a = none := fun a ha => by
    cases e : (hp.set env.locals (.ns m)) a with
    | none => rfl
    | some o => exact absurd (r.lt e) (by rw [hLL]; exact Nat.not_lt.mpr ha)
  have fr2 : ∀ a, L ≤ a → hp a = none ∧ a ≠ env.locals := fun a ha => by
    have h1 := fresh a ha
    have h2 : a ≠ env.locals := fun e => by rw [e, Hp.ss] at h1; cases h1
    exact ⟨Hp.snr h2 h1, h2⟩
  have hcs : ∀ n c, (n, c) ∈ cellsFrom (L + 1) fd.scope.names [] → hp c = none ∧ c ≠ env.locals ∧ c ≠ L := fun n c hm => by
    have := xab n c hm
    have hlt : L < c := this
    exact ⟨(fr2 c (Nat.le_of_lt hlt)).1, (fr2 c (Nat.le_of_lt hlt)).2, Nat.ne_of_gt hlt⟩
  have rel : Rel B0 ((Za7 (hp.set env.locals (.ns m)) (cellsFrom (L + 1) fd.scope.names []) (Zdk (callEnvC fd L f).kindOf bs fun _ => none)).set (callEnvC fd L f).locals (.ns (bindLA (callEnvC fd L f).kindOf bs fun _ => none))) { s with heap := h₁, toks := tk₁ } := by
    refine ⟨fun b o e => xk _ _ (r.keep b o e), fun a o e => ?_, r.os, r.bare, ?_⟩
    · by_cases ha : a = L
      · subst ha
        rw [show (callEnvC fd a f).locals = a from rfl, Hp.ss] at e
        cases e
        exact ⟨by rw [← hLL]; exact r.size, _, xns, Zej e1 (e2.mono le) ⟨fun x v e => (by cases e), fun x _ => rfl⟩⟩
      · rw [show (callEnvC fd L f).locals = L from rfl, Hp.sn _ _ ha] at e
        unfold Za7 at e
        cases hf : (cellsFrom (L + 1) fd.scope.names []).find? (fun x => decide (x.2 = a)) with
        | some x =>
          rw [hf] at e
          cases e
          have hmem := List.mem_of_find?_eq_some hf
          have hxa : x.2 = a := by have := List.find?_some hf; simpa using this
          obtain ⟨o', ho', hd'⟩ := xc x.1 a (by have := hnd L x.1 x.2 hmem; rw [hxa] at this; exact this)
          have hlt : L < x.2 := xab x.1 x.2 hmem
          refine ⟨by rw [← hxa]; exact Nat.le_trans r.size (by rw [hLL]; exact Nat.le_of_lt hlt), o', _, ho', hd', ?_⟩
          have hC := Zek (k := (callEnvC fd L f).kindOf) (h := h₁) e1 (e2.mono le) (m := fun _ => none) (mv := fun _ => none) ⟨fun x v e => (by cases e), fun x _ => rfl⟩
          cases hcm : Zdk (callEnvC fd L f).kindOf bs (fun _ => none) x.1 with
          | none => exact hC.2 x.1 hcm
          | some v => obtain ⟨u, hu, hvu⟩ := hC.1 x.1 v hcm; exact ⟨u, hu, hvu⟩
        | none =>
          rw [hf] at e
          exact ⟨(r.objs a o e).1, (r.objs a o e).2.here le fun o'' e => xk _ _ e⟩
    · exact Nat.le_trans r.size (by rw [hLL]; exact Nat.le_of_lt xns.lt)
  refine wpAny_mono (h L (fr2 L (Nat.le_refl _)).1 (fr2 L (Nat.le_refl _)).2 hcs _ rel) (fun fl s' x => ?_) fun _ _ x => x.elim
  refine hide fun Gq kq => ?_
  obtain ⟨af, m', hp', r', le', hf, hp₂, hsub, hn, q⟩ := x
  refine kq ?_; clear kq Gq
  refine mkV (av := Zfe af) (r'.sub fun a o e => ?_) (le.trans le') (Zhv hf) q
  have hLe := (fr2 L (Nat.le_refl _)).2
  have haL : a ≠ L := fun e' => by subst e'; rw [Hp.sn _ _ hLe, hn] at e; cases e
  rw [show (callEnvC fd L f).locals = L from rfl, Hp.sn _ _ haL]
  exact hsub a o e
end
open PySem PySem.W PyProof.Rows PySem.Calls Builtin
set_option maxHeartbeats 4000000
structure MatK (PW : Program) (W0 : World) (K : Frag) : Prop where
  call : specialIn K (.ref 135) "__call__" = some (some (.builtin "type.__call__"))
  typ : instIn K (.ref 135) (.type "type") = some true
  made : peek K ⟨PW, W0.params⟩ (Bind.madeBy (.ref 135)) = some none
  chk : ∀ a, peek K ⟨PW, W0.params⟩ (checkBuiltinCall "tuple.__new__" ⟨[.ref 135, a], []⟩) = some ()
  mro : peek K ⟨PW, W0.params⟩ (mroOf (.ref 135)) = some [.ref 135, .type "tuple", .type "object"]
  here : peek K ⟨PW, W0.params⟩ (Bind.madeHere "tuple.__new__" (.ref 135)) = some ()
  isty : peek K ⟨PW, W0.params⟩ (isType (.ref 135)) = some true
  self : mroIn K 135 (.ref 135) = some true
  top : mroIn K 135 (.type "object") = some true
  tup : mroIn K 135 (.type "tuple") = some true
  init : findIn K (.ref 135) "__init__" = some (some (.builtin "object.__init__"))
  reads : readsIn K 135 (.type "type") = true
  find : findCls K (.ref 135) (.type "type") "__new__" = some (.get (.builtin "staticmethod.__get__") (.ref 136) .none (.ref 135))
  sm : recIn K 136 "staticmethod" = some [.ref 82]
  tnew : findCls K (.type "tuple") (.type "type") "__new__" = some (.val (.builtin "tuple.__new__"))
  del : ∃ oc od cd sl, K.lookup 135 = some ⟨oc, od, .cls cd, sl⟩ ∧ cd.hasDel = false
noncomputable def Znd (K : Frag) (R : Result → Shared → Prop) (r : Result) (s' : Shared) : Prop := match r with
  | .ok (.ret v) => ∃ x o, v = .ref x ∧ s'.heap.get? x = some o ∧ o.cls = .ref 135 ∧ K.In s'.heap ∧ R (.ok (.ret (.ref x))) s'
  | .ok _ => False
  | .error e => R (.error e) s'
theorem Zmh (a b c d : Value) : argsOk "object.__init__" ⟨[a, b, c, d], []⟩ := by unfold argsOk; kernel_rfl
section
variable {A : Around} {K : Frag} {R : Result → Shared → Prop} {h : Heap} {g : Array GenState} {d : Drawn} {t : Nat} {os : OsState}
theorem Zpy (Y : MatK PW W0 K) {x : Addr} {o : Obj} {u1 u2 u3 : Value} (X : K.In h) (hx : h.get? x = some o) (hc : o.cls = .ref 135) (q : R (.ok (.ret .none)) ⟨h, g, d, t, os⟩) :
    codeAny (model PW W0) A (.call (.builtin "object.__init__") ⟨[.ref x, u1, u2, u3], []⟩) R ⟨h, g, d, t, os⟩ := by
  have t1 : Looks (model PW W0) h (typeOf (.ref x)) (.ref 135) := by rw [← hc]; exact (Looks.ld hx).andThen .now
  have t2 : Looks (model PW W0) h (isInstance (.ref x) (.type "object")) true := t1.andThen (looks_mroIn X Y.top)
  have t3 := looks_findIn (M := model PW W0) X Y.init
  have t4 : Looks (model PW W0) h (Bind.madeBy (.ref 135)) none := Looks.of_peek X Y.made
  refine codeAny_call_builtin oi_plain entry_oi (@check_slot (model PW W0) _ _ _ "object.__init__" "object" "__init__" (.ref x) [u1, u2, u3] [] _ oi_kind oi_split t2 (Zmh (.ref x) u1 u2 u3) ?_)
  unfold Builtin.«object.__init__»
  dsimp only
  refine wpAny_bind ?_
  refine t1.at (wpAny_bind (t3.at (wpAny_bind (t4.at ?_))))
  dsimp only [bne_self_eq_false, Bool.false_eq_true, if_false]
  exact wpAny_pure q
theorem Zmq (Y : MatK PW W0 K) {u1 u2 u3 : Value} (X : K.In h)
    (hq : codeAny (model PW W0) (A.under (.builtin "type.__call__" ⟨[.ref 135, u1, u2, u3], []⟩)) (.call (.ref 82) ⟨[.ref 135, u1, u2, u3], []⟩) (Znd K R) ⟨h, g, d, t + 1, os⟩) :
    codeAny (model PW W0) A (.call (.ref 135) ⟨[u1, u2, u3], []⟩) R ⟨h, g, d, t, os⟩ := by
  refine hide fun Gq kq => ?_
  obtain ⟨oc, od, cd, sl, hC, e2⟩ := Y.del
  refine kq ?_; clear kq Gq
  have call := looks_specialIn (M := model PW W0) X Y.call
  have typ := looks_instIn (M := model PW W0) X Y.typ
  have hm : Looks (model PW W0) h (mroOf (.ref 135)) _ := Looks.of_peek X Y.mro
  have made : Looks (model PW W0) h (Bind.madeBy (.ref 135)) none := Looks.of_peek X Y.made
  refine codeAny_of_tree ?_
  show wpAny _ _ (callAny (.ref 135) _) _ _ _
  refine nd_load (X _ _ hC) ?_
  show wpAny _ _ (callAny.viaDunder (.ref 135) _) _ _ _
  unfold callAny.viaDunder
  refine wpAny_bind (call.at ?_)
  dsimp only
  rw [tc_bind]
  refine wpAny_bind (wpAny_pure (wpAny_bind (wpAny_pure ?_)))
  refine wpAny_pure (a := Fin.again (.call (.builtin "type.__call__") ⟨[.ref 135, u1, u2, u3], []⟩)) (And.intro rfl ?_)
  refine codeAny_call_builtin_at (Code.quiet_builtin _ (by decide +kernel)) entry_typeCall (check_slot tc_kind tc_split typ (tc_args _ _ _) ?_)
  unfold Builtin.«type.__call__»
  dsimp only
  have f0 : (Value.ref 135 == Value.type "type") = false := rfl
  simp -iota only [f0, Bool.false_eq_true, if_false]
  refine wpAny_bind (hm.at ?_)
  dsimp only [List.isEmpty_cons, Bool.false_eq_true, if_false]
  refine wpAny_bind (made.at ?_)
  dsimp only
  refine wpAny_bind ?_
  refine cls_bind X Y.reads Y.find ?_
  refine wpAny_call (sm_get X Y.sm ?_)
  dsimp only
  refine handed_on (by rfl) ?_
  refine wpAny_bind (wpAny_holding (wpAny_call ?_))
  refine codeAny_mono hq fun r s' z => ?_
  rcases r with e | (v | _ | _ | _) <;> first | exact z | exact z.elim | skip
  refine hide fun Gq kq => ?_
  obtain ⟨x, o, rfl, hx, hc, X', q⟩ := z
  obtain ⟨h', g', d', t', os'⟩ := s'
  refine kq ?_; clear kq Gq
  have t1 : Looks (model PW W0) h' (typeOf (.ref x)) (.ref 135) := by rw [← hc]; exact (Looks.ld hx).andThen .now
  have t2 : Looks (model PW W0) h' (isInstance (.ref x) (.ref 135)) true := t1.andThen (looks_mroIn X' Y.self)
  refine wpAny_bind (t2.at ?_)
  simp -iota only [Bool.not_true, Bool.false_eq_true, if_false]
  refine wpAny_bind (wpAny_holding ?_)
  unfold callSpecial? specialOf
  refine wpAny_bind (wpAny_bind (t1.at ((looks_findIn X' Y.init).at (wpAny_holding ?_))))
  rw [oi_bind]
  refine wpAny_bind (wpAny_pure (wpAny_bind (wpAny_call (Zpy Y X' hx hc ?_))))
  exact wpAny_pure (wpAny_pure q)
end
section
variable {A : Around} {E : Value → Shared → Prop} {env : Env} {m : Loc} {hp : Hp} {K : Frag}
theorem Zme : plainId "tuple.__new__" = true := by decide +kernel
theorem Zq6 {a b c : AV} {Q : AV → Hp → Prop} (G : Gnd K B0) (Y : MatK PW W0 K)
    (h : ∀ vs, CD (model PW W0) B0 E (A.under (.builtin "type.__call__" ⟨.ref 135 :: vs, []⟩)) env (.ref 82) m [.ref 135, a, b, c] hp fun v hp' => (∃ xs, v = .mat xs) ∧ Q v hp') :
    CL (model PW W0) B0 E A env (.ref 135) m [a, b, c] hp Q := fun s vs r hv => by
  obtain ⟨u1, u2, u3, rfl, h1, h2, h3⟩ : ∃ u v W0, vs = [u, v, W0] ∧ VR s.heap a u ∧ VR s.heap b v ∧ VR s.heap c W0 := by
    simp only [VRs] at hv; obtain ⟨v, r, rfl, h1, u, r', rfl, h2, z, r'', rfl, h3, rfl⟩ := hv; exact ⟨_, _, _, rfl, h1, h2, h3⟩
  refine wpAny_call ?_
  have hh := h [u1, u2, u3] { s with toks := s.toks + 1 } [.ref 135, u1, u2, u3] (r.toks _) (by simp only [VRs]; exact ⟨_, _, rfl, VR_ref, _, _, rfl, h1, _, _, rfl, h2, _, _, rfl, h3, rfl⟩)
  obtain ⟨heap, g, d, t, os⟩ := s
  refine Zmq Y (G.X.keeps r.keep) (codeAny_mono hh fun rr s' z => ?_)
  rcases rr with e | (v | _ | _ | _) <;> first | exact z | exact z.elim | skip
  obtain ⟨av, hp', r', le', hv', ⟨xs, rfl⟩, q⟩ := z
  have hv2 := hv'
  simp only [VR] at hv'
  obtain ⟨x, us, rfl, ⟨o, ho, hc, n, hd⟩, hu⟩ := hv'
  exact ⟨x, o, rfl, ho, hc, G.X.keeps r'.keep, _, hp', r', le', hv2, q⟩
theorem Zlu {xs : List AV} {Q : AV → Hp → Prop} (G : Gnd K B0) (Y : MatK PW W0 K) (hsz : xs.length ≤ sizeLine) (h : Q (.mat xs) hp) : CL (model PW W0) B0 E A env (.builtin "tuple.__new__") m [.ref 135, .tup xs] hp Q := fun s vs r hv => by
  refine hide fun Gq kq => ?_
  obtain ⟨v, u, rfl, h1, h2⟩ := Zc7 hv
  simp only [VR] at h1 h2
  subst h1
  obtain ⟨a, us, rfl, ⟨o, ho, hc, n, hd⟩, hu⟩ := h2
  have hlen : us.size ≤ sizeLine := by rw [← Array.length_toList, hu.length]; exact hsz
  have X := G.X.keeps r.keep
  obtain ⟨oc, od, cd, sl, hC, e2⟩ := Y.del
  refine kq ?_; clear kq Gq
  refine wpAny_call (codeAny_call_builtin Zme PySem.F.entry_tuple_new (Looks.here (Looks.of_peek X (Y.chk _)) ?_))
  unfold Builtin.«tuple.__new__»
  dsimp only
  refine wpAny_bind ((Looks.of_peek (M := model PW W0) X Y.isty).here ?_)
  simp only [Bool.not_true, Bool.false_eq_true, if_false]
  refine wpAny_bind ((looks_mroIn X Y.tup).here ?_)
  simp only [Bool.not_true, Bool.false_eq_true, if_false]
  refine wpAny_bind ((Looks.of_peek (M := model PW W0) X Y.here).here ?_)
  refine wpAny_bind ((looks_findIn X Y.init).here ?_)
  simp only [beq_self_eq_true, if_true]
  refine wpAny_bind ?_
  refine wpAny_of_eq (a := ()) (by rfl) ?_
  refine wpAny_bind (wpAny_of_eq (a := ()) (by rfl) ?_)
  have f0 : (Value.ref 135 == Value.type "tuple") = false := rfl
  simp only [f0, Bool.false_eq_true, if_false]
  refine wpAny_bind (wpAny_collect_seq (hsz := hlen) a (.inr rfl) ho hc hd fun h' hk => ?_)
  refine wpAny_bind (wpAny_pure ?_)
  refine wpAny_bind (wpAny_alloc ?_)
  refine wpAny_bind ?_
  unfold newObj
  dsimp only
  rw [if_neg (by simp only [List.size_toArray, Array.length_toList]; (exact Nat.not_lt.mpr (by assumption)))]
  unfold newObjAsIs classHasDel
  have hC' := hk _ _ (X _ _ hC)
  refine wpAny_bind (wpAny_alloc (wpAny_bind (wpAny_bind (wpAny_load (Heap.get?_push_of_some _ (Heap.get?_push_of_some _ hC')) (wpAny_pure ?_)))))
  rw [e2]
  refine wpAny_pure (wpAny_pure ?_)
  refine hide fun Gq kq => ?_
  obtain ⟨r1, le1⟩ := r.grown hk s.toks
  refine kq ?_; clear kq Gq
  have r2 := (r1.push emptyDict).push { cls := .ref 135, dict := some h'.objs.size, data := .seq us.toList.toArray }
  have le2 : ImmLe s.heap ((h'.push emptyDict).push { cls := .ref 135, dict := some h'.objs.size, data := .seq us.toList.toArray }) := ImmLe.keep fun b o e => Heap.get?_push_of_some _ (Heap.get?_push_of_some _ (hk _ _ e))
  refine mkV (av := .mat xs) r2 le2 (?_) h
  simp only [VR]
  exact ⟨_, us.toList.toArray, rfl, ⟨_, Heap.get?_push_size _ rfl, rfl, 0, rfl⟩, by simpa using hu.mono le2⟩
theorem Zkn {s : Shared} {pl : Sem Bool} {Q : Value × List Value → Shared → Prop} (X : K.In s.heap) (Y : MatK PW W0 K)
    (h : Q (.builtin "tuple.__new__", []) { s with toks := s.toks + 1 }) : wpAny (model PW W0) A (getMethod (.type "tuple") (PySem.Str.ofString "__new__") pl) Q E s := by
  have hstub : opaqueClassAbove (.type "tuple") = pure none := by unfold opaqueClassAbove; dsimp only; rw [show Manifest.isStub "tuple" = false by decide +kernel]; rfl
  have ht : typeOf (.type "tuple") = pure (.type "type") := by first | rfl | kernel_rfl
  have L0 : Looks (model PW W0) s.heap (typeOf (.type "tuple")) (.type "type") := Looks.of_pure ht
  have hg : findIn K (.type "type") "__getattribute__" = some (some (.builtin "type.__getattribute__")) := type_tga
  unfold getMethod specialOf
  refine wpAny_bind (wpAny_bind (L0.here ((looks_findIn X hg).here ?_)))
  dsimp only
  rw [if_pos canon_tga]
  refine wpAny_bind (wpAny_mono (Q := fun v => Q (v, [])) (E := E) ?_ (fun _ _ z => wpAny_pure z) fun _ _ z => z)
  have LO : Looks (model PW W0) s.heap (opaqueClassAbove (.type "tuple")) none := Looks.of_pure hstub
  refine cls_open X LO L0 hg (looks_hook X (r := none) (by rfl)) (by show subIn K _ _ = _; rfl) Y.tnew ?_
  exact wpAny_pure (handed_on (by rfl) h)
theorem Zlp {o e : Expr} {rest : List Expr} {apos pos} {pl : Sem Bool} {Q : AV → Hp → Prop} (G : Gnd K B0) (Y : MatK PW W0 K)
    (h : EV (model PW W0) B0 E A env o m hp fun v hp₁ => v = .ty "tuple" ∧ EVS (model PW W0) B0 E A env (e :: rest) m hp₁ fun vs hp₂ => CL (model PW W0) B0 E A env (.builtin "tuple.__new__") m vs hp₂ Q)
    (hc : eval (.Call (.Attribute o (PySem.Str.ofString "__new__") apos) (e :: rest) [] pos) env = (do
      let ov ← eval o env
      standAt apos.atName
      let (f, first) ← holding [ov] (getMethod ov (PySem.Str.ofString "__new__") pl)
      callWith pos f first (backTo pos (starEach (e :: rest) env)) []) := by rfl)
    (he : starEach (e :: rest) env = (false, eval e env) :: starEach rest env := by rfl) (hplain : (backTo pos (starEach rest env)).any (·.1) = false := by rfl) :
    EV (model PW W0) B0 E A env (.Call (.Attribute o (PySem.Str.ofString "__new__") apos) (e :: rest) [] pos) m hp Q := fun s r => by
  refine MethodCall_ (pl := pl) (h.use r fun u s₁ l hp₁ r₁ le₁ hu x => ?_) hc
  obtain ⟨rfl, q⟩ := x
  simp only [VR] at hu; subst hu
  refine Zkn (G.X.keeps r₁.keep) Y ?_
  refine callWith_builtin1 (Zc3 (q pos _ (r₁.toks _)) fun vs s₂ avs hp₂ r₂ le₂ hv q => ?_) he hplain
  exact useV (q s₂ vs r₂ hv) fun v s₃ av hp₃ r₃ le₃ hv q => mkV r₃ ((le₁.trans le₂).trans le₃) hv q
theorem Zlr {o : Expr} {name : PySem.Str} {pos} {T id gid : String} {Q : AV → Hp → Prop} (b : BndOk T name id gid)
    (hck : ∀ {A : Around} {a : Addr} {s : Shared} {o : Obj} {Q : Value → Shared → Prop}, s.heap.get? a = some o → o.cls = .type T → Q (.ref s.heap.objs.size) { s with heap := s.heap.push (Zbc id a) } → wpAny (model PW W0) A (call (.builtin "method_descriptor.__get__") [.builtin id, .ref a, .type T]) Q (fun _ _ => False) s)
    (h : EV (model PW W0) B0 E A env o m hp fun v hp₁ => ∃ a, v = .ref a ∧ (∀ s, Rel B0 (hp₁.set env.locals (.ns m)) s → ∃ ob, s.heap.get? a = some ob ∧ ob.cls = .type T ∧ ob.dict = none ∧ ∀ c, ob.data ≠ .cls c) ∧ ∀ x, hp₁ x = none → x ≠ env.locals → Q (.ref x) (hp₁.set x (.obj (Zbc id a))))
    (he : eval (.Attribute o name pos) env = (do
      let ov ← eval o env
      standAt pos.atName
      let r ← holding [ov] (getAttr ov name true)
      letTemporaryGo o ov r
      pure r) := by with_unfolding_all rfl) :
    EV (model PW W0) B0 E A env (.Attribute o name pos) m hp Q := fun s r => by
  rw [he]
  refine wpAny_bind (h.use r fun v s₁ av hp₁ r₁ le₁ hv x => wpAny_bind (wpAny_standAt (wpAny_bind (wpAny_holding ?_))))
  refine hide fun Gq kq => ?_
  obtain ⟨a, rfl, hty, q⟩ := x
  simp only [VR] at hv; subst hv
  obtain ⟨ob, ho, hcl, hdn, hn⟩ := hty s₁ r₁
  refine kq ?_; clear kq Gq
  refine Zde b ho hcl hdn hn (fun ho hc h => hck ho hc h) ?_
  have n := r₁.newAt (Zbc id a) (.obj (Zbc id a)) ⟨Heap.get?_push_size _ rfl, bndOb_notImm⟩
  exact wpAny_bind (wpAny_letTemporaryGo (wpAny_pure (mkV (av := .ref _) (n.1.toks _) (le₁.trans n.2.2.2) VR_ref (q _ n.2.1 n.2.2.1))))
end
section
variable {A : Around} {E : Value → Shared → Prop} {env : Env} {m : Loc} {hp : Hp} {K : Frag}
noncomputable def rgSt (a b : Int) (i : Nat) (ob : Obj) : Prop := ob = { cls := .type "range_iterator", dict := none, data := .fields #[rawInt (a + i), rawInt ((b - a).toNat - i), rawInt 1], slots := #[] }
theorem Zoh (a b : Int) : rgSt a b 0 { cls := .type "range_iterator", data := .fields #[rawInt a, rawInt (Builtin.Range.rangeSize a b 1), rawInt 1] } := by
  have hsz : Builtin.Range.rangeSize a b 1 = ((b - a).toNat : Int) := by rw [rangeSize_one]; split <;> lia
  unfold rgSt; rw [hsz]; simp
theorem Ze4 {a b : Int} {i : Nat} {it : Addr} {s' : Shared} {ob : Obj} (hi : i < (b - a).toNat) (hst : rgSt a b i ob) (hg : s'.heap.get? it = some ob) (E' : Value → Shared → Prop) (W : Option Value → Shared → Prop)
    (k : ∀ v h' t' ob', VR s'.heap (.int (a + i)) v → h'.get? it = some ob' → rgSt a b (i + 1) ob' → Heap.SameBut it s'.heap h' → W (some v) { s' with heap := h', toks := t' }) : wpAny (model PW W0) A (pyNext (.ref it)) W E' s' := by
  unfold rgSt at hst; subst hst
  refine wpAny_pyNext_range_item (x := a + i) (left := (b - a).toNat - i) (step := 1) hg (by lia) fun h' hit' hs' => ?_
  have e1 : a + (i : Int) + 1 = a + ((i + 1 : Nat) : Int) := by push_cast; lia
  have e2 : (((b - a).toNat : Int) - i - 1) = ((b - a).toNat - ((i + 1 : Nat) : Int)) := by push_cast; lia
  exact k _ h' _ _ VR_int hit' (by unfold rgSt; rw [e1, e2]) hs'
theorem Ze3 {a b : Int} {it : Addr} {s' : Shared} {ob : Obj} (hh : A.handled = none) (hst : rgSt a b (b - a).toNat ob) (hg : s'.heap.get? it = some ob) (E' : Value → Shared → Prop) (W : Option Value → Shared → Prop)
    (k : ∀ h' t', Heap.ExtBut it s'.heap h' → W none { s' with heap := h', toks := t' }) : wpAny (model PW W0) A (pyNext (.ref it)) W E' s' := by
  unfold rgSt at hst; subst hst
  exact wpAny_pyNext_range_end hh (x := a + (b - a).toNat) (left := (b - a).toNat - (b - a).toNat) (step := 1) hg (by lia) fun h' he => k h' s'.toks he
theorem Zgf {elt iter : Expr} {x : PySem.Str} {tpos} {ifs : List Expr} {scope : Scope} {pos : Pos} {cl : List (PySem.Str × Addr)} {use : Option (Value → Sem Unit)} {PP : Value → Shared → Prop} {s s₁ : Shared} {itob : Obj} {n : Nat} {el : Nat → AV} {st : Nat → Obj → Prop} {F : Addr → Hp → Prop} {p : Nat → Bool} {e : Nat → AV}
    (hcell : ∀ y ∈ scope.names, y.2 ≠ .cell) (hkind : scope.kind = .function) (hx : ∀ C, (compEnvC scope cl C env).kindOf x = some .local) (hn : n ≤ 5000) (imm : ∀ i ob, st i ob → ¬ Imm ob) (st0 : st 0 itob) (hfr : itob.isFreed = false)
    (clst : ∀ i ob, st i ob → ∃ n, ob.cls = .type n ∧ ["enumerate", "zip", "dict_itemiterator", "dict_reverseitemiterator", "odict_iterator", "itertools.zip_longest", "itertools.pairwise"].contains n = false)
    (r₁ : Rel B0 (hp.set env.locals (.ns m)) s₁) (le₁ : ImmLe s.heap s₁.heap)
    (hpi : ∀ (it : Addr) (s' : Shared) (E' : Value → Shared → Prop) (W : Value → Shared → Prop), s'.heap.get? it = some itob → W (.ref it) s' → wpAny (model PW W0) A (pyIter (.ref it)) W E' s')
    (hpost : ∀ hp₃ acc C m' s', C ≠ env.locals → hp₃ C = none → Rel B0 ((hp₃.set C (.ns m')).set env.locals (.ns m)) s' → ImmLe s.heap s'.heap → F acc hp₃ → compPost (model PW W0) A E use PP (.ref acc) C (.ok .next) s')
    (inext : ∀ i it C m₂ hp₂ s' ob, i < n → hp C = none → C ≠ env.locals → Hp.Le (hp.set env.locals (.ns m)) hp₂ → st i ob → Rel B0 (hp₂.set C (.ns m₂)) s' → s'.heap.get? it = some ob → ∀ (E' : Value → Shared → Prop) (W : Option Value → Shared → Prop),
          (∀ v h' t' ob', VR s'.heap (el i) v → h'.get? it = some ob' → st (i + 1) ob' → Heap.SameBut it s'.heap h' → W (some v) { s' with heap := h', toks := t' }) → wpAny (model PW W0) A (pyNext (.ref it)) W E' s')
    (istop : ∀ it C m₂ hp₂ s' ob, hp C = none → C ≠ env.locals → Hp.Le (hp.set env.locals (.ns m)) hp₂ → st n ob → Rel B0 (hp₂.set C (.ns m₂)) s' → s'.heap.get? it = some ob → ∀ (E' : Value → Shared → Prop) (W : Option Value → Shared → Prop),
          (∀ h' t', Heap.ExtBut it s'.heap h' → W none { s' with heap := h', toks := t' }) → wpAny (model PW W0) A (pyNext (.ref it)) W E' s')
    (turn : ∀ C m₂ hp₂ (i : Nat), i < n → hp C = none → C ≠ env.locals → Hp.Le (hp.set env.locals (.ns m)) hp₂ → m₂ x = some (el i) →
        TSTs (model PW W0) B0 (fun _ _ => False) A (compEnvC scope cl C env) ifs m₂ hp₂ fun t hp₄ => t = p i ∧ Hp.Le hp₂ hp₄ ∧ (t = true → EV (model PW W0) B0 (fun _ _ => False) A (compEnvC scope cl C env) elt m₂ hp₄ fun v hp₅ => v = e i ∧ Hp.Le hp₄ hp₅))
    (fin : ∀ acc, hp acc = none → acc ≠ env.locals → F acc (hp.set acc (.list (((List.range n).filter p).map e)))) :
    wpAny (model PW W0) A (newList []) (fun acc s₃ => wpAny (model PW W0) A (newFunctionEnv scope env.globals cl [] env.qual none .none (some env)) (fun cenv s₄ => codeAny (model PW W0) A (.compStart (.ListComp elt [⟨.Name x tpos, iter, ifs, 0⟩] scope pos) 0 (.ref s₁.heap.objs.size) acc { cenv with scope := relabel scope env }) (compPost (model PW W0) A E use PP acc cenv.locals) s₄) E s₃) E { s₁ with heap := s₁.heap.push itob } := by
  refine Zm1 (n := n) (el := el) (st := st) hcell hkind hn imm st0 hfr clst r₁ le₁ hpi hpost fun it acc C h1 h2 h3 h4 h5 h6 h7 h8 h9 => ?_
  have b1 : (hp.set env.locals (.ns m)) it = none := Hp.snt h2 h1
  have b2 : (hp.set env.locals (.ns m)) acc = none := Hp.snt h4 h3
  refine ⟨fun i ys _ hp₂ => Hp.Le (hp.set env.locals (.ns m)) hp₂ ∧ ys = ((List.range i).filter p).map e, fun ob => ⟨((Hp.Le.refl _).set b1 _).set b2 _, rfl⟩, fun i ys m₂ hp₂ ob y => ⟨y.1.set b1 _, y.2⟩, fun i ys m₂ hp₂ zs y => ⟨y.1.set b2 _, y.2⟩,
    fun i ys m₂ hp₂ s' ob hi y _ hst r' hg => inext i it C m₂ hp₂ s' ob hi h6 h7 y.1 hst r' hg, fun ys m₂ hp₂ s' ob y _ hst r' hg => istop it C m₂ hp₂ s' ob h6 h7 y.1 hst r' hg, fun i ys m₂ hp₂ ob hi y hit hac => ?_, fun ys m₂ hp₂ y hac => ?_⟩
  · refine Zak (fun s r => ?_) (hx C) (by show (scope.kind == .class || (scope.kind == .module && _)) = false; rw [hkind]; rfl)
    refine useT (turn C _ hp₂ i hi h6 h7 y.1 (by simp [upd]) s r) fun t s' hp₄ r₄ le₄ q => mkT r₄ le₄ (?_)
    have hr : ((List.range (i + 1)).filter p).map e = ys ++ (if t then [e i] else []) := by rw [List.range_succ, List.filter_append, List.map_append, y.2, q.1]; congr 1; by_cases hp' : p i <;> simp [hp']
    have yt := y.1.trans q.2.1
    cases t with
    | false => exact ⟨⟨yt, by rw [hr]; simp⟩, q.2.1 _ _ hit, q.2.1 _ _ hac⟩
    | true => exact (q.2.2 rfl).mono fun v hp₅ z => ⟨⟨yt.trans z.2, by rw [hr, z.1]; rfl⟩, z.2 _ _ (q.2.1 _ _ hit), z.2 _ _ (q.2.1 _ _ hac)⟩
  · refine ⟨hp.set acc (.list ys), fun z o hz => ?_, Hp.snt h9 h6, by rw [y.2]; exact fin acc h3 h4⟩
    have hzi : z ≠ it := fun e => by rw [e, Hp.sn _ _ h2, Hp.sn _ _ (Ne.symm h5), h1] at hz; cases hz
    rw [Hp.del_ne _ hzi]
    by_cases hza : z = acc
    · rw [hza, Hp.sn _ _ h4, Hp.ss] at hz
      rw [hza, hac]; exact hz
    · refine y.1 z o ?_
      rw [Hp.sc _ _ _ h4] at hz
      rwa [Hp.sn _ _ hza] at hz
noncomputable abbrev CRP (PW : Program) (W0 : World) (A : Around) (B0 : Shared) (env : Env) (m : Loc) (x : PySem.Str) (ifs : List Expr) (elt : Expr) (scope : Scope) (cl : List (PySem.Str × Addr)) (p : Nat → Bool) (e : Nat → AV) (F : Addr → Hp → Prop) (o : AV) (hp₁ : Hp) : Prop :=
  ∃ rg ob a b, o = .ref rg ∧ hp₁ rg = some (.obj ob) ∧ rg ≠ env.locals ∧ RangeOb ob a b ∧ -(2 ^ 62) ≤ a ∧ a < 2 ^ 62 ∧ -(2 ^ 62) ≤ b ∧ b < 2 ^ 62 ∧ (b - a).toNat ≤ 5000 ∧
      (∀ C m₂ hp₂ (i : Nat), i < (b - a).toNat → hp₁ C = none → C ≠ env.locals → Hp.Le (hp₁.set env.locals (.ns m)) hp₂ → m₂ x = some (.int (a + i)) →
        TSTs (model PW W0) B0 (fun _ _ => False) A (compEnvC scope cl C env) ifs m₂ hp₂ fun t hp₄ => t = p i ∧ Hp.Le hp₂ hp₄ ∧ (t = true → EV (model PW W0) B0 (fun _ _ => False) A (compEnvC scope cl C env) elt m₂ hp₄ fun v hp₅ => v = e i ∧ Hp.Le hp₄ hp₅)) ∧
      ∀ acc, hp₁ acc = none → acc ≠ env.locals → F acc (hp₁.set acc (.list (((List.range (b - a).toNat).filter p).map e)))
noncomputable abbrev CLP (PW : Program) (W0 : World) (A : Around) (B0 : Shared) (env : Env) (m : Loc) (x : PySem.Str) (elt : Expr) (scope : Scope) (cl : List (PySem.Str × Addr)) (e : AV → AV) (F : Addr → Hp → Prop) (o : AV) (hp₁ : Hp) : Prop :=
  ∃ a xs, o = .ref a ∧ Lst B0 hp₁ env.locals a xs ∧ xs.length ≤ 5000 ∧
      (∀ C m₂ hp₂ v, v ∈ xs → hp₁ C = none → C ≠ env.locals → Hp.Le (hp₁.set env.locals (.ns m)) hp₂ → m₂ x = some v →
        EV (model PW W0) B0 (fun _ _ => False) A (compEnvC scope cl C env) elt m₂ hp₂ fun v' hp₅ => v' = e v ∧ Hp.Le hp₂ hp₅) ∧
      ∀ acc, hp₁ acc = none → acc ≠ env.locals → F acc (hp₁.set acc (.list (xs.map e)))
noncomputable abbrev Zra (PW : Program) (W0 : World) (A : Around) (E : Value → Shared → Prop) (env : Env) (x : PySem.Str) (tpos : Pos) (iter : Expr) (ifs : List Expr) (elt : Expr) (scope : Scope) (pos : Pos) (cl : List (PySem.Str × Addr)) (use : Option (Value → Sem Unit)) (PP : Value → Shared → Prop) (v : Value) (s₁ : Shared) : Prop :=
  wpAny (model PW W0) A (pyIter v) (fun it s₂ => wpAny (model PW W0) A (newList []) (fun acc s₃ => wpAny (model PW W0) A (newFunctionEnv scope env.globals cl [] env.qual none .none (some env)) (fun cenv s₄ => codeAny (model PW W0) A (.compStart (.ListComp elt [⟨.Name x tpos, iter, ifs, 0⟩] scope pos) 0 it acc { cenv with scope := relabel scope env }) (compPost (model PW W0) A E use PP acc cenv.locals) s₄) E s₃) E s₂) E s₁
noncomputable abbrev Zq4 (PW : Program) (W0 : World) (A : Around) (E : Value → Shared → Prop) (B0 : Shared) (env : Env) (m : Loc) (use : Option (Value → Sem Unit)) (PP : Value → Shared → Prop) (s : Shared) (F : Addr → Hp → Prop) : Prop :=
  ∀ hp₃ acc C m' s', C ≠ env.locals → hp₃ C = none → Rel B0 ((hp₃.set C (.ns m')).set env.locals (.ns m)) s' → ImmLe s.heap s'.heap → F acc hp₃ → compPost (model PW W0) A E use PP (.ref acc) C (.ok .next) s'
theorem Zeh {elt iter : Expr} {x : PySem.Str} {tpos} {ifs : List Expr} {scope : Scope} {pos : Pos} {cl : List (PySem.Str × Addr)} {use : Option (Value → Sem Unit)} {PP : Value → Shared → Prop} {s s₁ : Shared} {F : Addr → Hp → Prop} {p : Nat → Bool} {e : Nat → AV} {o : AV} {u : Value}
    (hh : A.handled = none) (hcell : ∀ y ∈ scope.names, y.2 ≠ .cell) (hkind : scope.kind = .function) (hx : ∀ C, (compEnvC scope cl C env).kindOf x = some .local) (r₁ : Rel B0 (hp.set env.locals (.ns m)) s₁) (le₁ : ImmLe s.heap s₁.heap) (hu : VR s₁.heap o u)
    (hpost : Zq4 PW W0 A E B0 env m use PP s F) (y : CRP PW W0 A B0 env m x ifs elt scope cl p e F o hp) : Zra PW W0 A E env x tpos iter ifs elt scope pos cl use PP u s₁ := by
  refine hide fun Gq kq => ?_
  obtain ⟨rg, ob, a, b, rfl, hrg, hrL, ⟨t, u', v', rfl⟩, ha, ha', hb, hb', hlen, turn, fin⟩ := y
  simp only [VR] at hu; subst hu
  refine kq ?_; clear kq Gq
  exact wpAny_pyIter_range (r₁.at hrg hrL).1 (small_one ha ha' hb hb') (Zgf (n := (b - a).toNat) (el := fun i => .int (a + i)) (st := rgSt a b) hcell hkind hx hlen (fun i ob x i' => by obtain ⟨_, _, _, e⟩ := i'; rw [x] at e; cases e) (Zoh a b) rfl (fun _ _ x => ⟨"range_iterator", congrArg Obj.cls x, rfl⟩) r₁ le₁
    (fun it s' E' W hg h => wpAny_pyIter_rangeiter (x := a) (left := Builtin.Range.rangeSize a b 1) (step := 1) hg h) hpost (fun i it C m₂ hp₂ s' ob hi _ _ _ hst _ hg E' W k => Ze4 hi hst hg E' W k) (fun it C m₂ hp₂ s' ob _ _ _ hst _ hg E' W k => Ze3 hh hst hg E' W k) turn fin)
theorem Ze6 {elt iter : Expr} {x : PySem.Str} {tpos} {scope : Scope} {pos : Pos} {cl : List (PySem.Str × Addr)} {use : Option (Value → Sem Unit)} {PP : Value → Shared → Prop} {s s₁ : Shared} {F : Addr → Hp → Prop} {e : AV → AV} {o : AV} {u : Value}
    (hh : A.handled = none) (hcell : ∀ y ∈ scope.names, y.2 ≠ .cell) (hkind : scope.kind = .function) (hx : ∀ C, (compEnvC scope cl C env).kindOf x = some .local) (r₁ : Rel B0 (hp.set env.locals (.ns m)) s₁) (le₁ : ImmLe s.heap s₁.heap) (hu : VR s₁.heap o u)
    (hpost : Zq4 PW W0 A E B0 env m use PP s F) (y : CLP PW W0 A B0 env m x elt scope cl e F o hp) : Zra PW W0 A E env x tpos iter [] elt scope pos cl use PP u s₁ := by
  refine hide fun Gq kq => ?_
  obtain ⟨a, xs, rfl, hl, hlen, turn, fin⟩ := y
  simp only [VR] at hu; subst hu
  obtain ⟨vs, hlst, hvs⟩ := r₁.lst hl
  refine kq ?_; clear kq Gq
  refine wpAny_pyIter_list hlst (Zgf (n := xs.length) (el := fun i => xs.getD i .none) (p := fun _ => true) (e := fun i => e (xs.getD i .none)) (st := fun i ob => ob.cls = .type "list_iterator" ∧ ob.data = .fields #[.ref a, .int i 0]) hcell hkind hx hlen (fun i ob x i' => by obtain ⟨_, _, _, e⟩ := i'; rw [x.2] at e; cases e) ⟨rfl, rfl⟩ rfl (fun _ _ x => ⟨_, x.1, rfl⟩) r₁ le₁
    (fun it s' E' W hg h => wpAny_pyIter_listiter ⟨_, hg, rfl, rfl⟩ h) hpost (fun i it C m₂ hp₂ s' ob hi h6 h7 le hst r' hg E' W k => Zke (env := compEnvC scope cl C env) hi ((hl.call h6).le le) hst r' hg rfl E' W k) (fun it C m₂ hp₂ s' ob h6 h7 le hst r' hg E' W k => Zkd (env := compEnvC scope cl C env) hh ((hl.call h6).le le) hst r' hg rfl E' W k)
    (fun C m₂ hp₂ i hi h6 h7 le hm => Zfu ⟨rfl, .refl _, fun _ => turn C m₂ hp₂ _ (by rw [List.getD_eq_getElem?_getD, List.getElem?_eq_getElem hi]; exact List.getElem_mem hi) h6 h7 le hm⟩) fun acc h3 h4 => ?_)
  have er : ((List.range xs.length).filter fun _ => true).map (fun i => e (xs.getD i .none)) = xs.map e := by
    rw [List.filter_eq_self.mpr fun _ _ => rfl]
    apply List.ext_getElem?
    intro i
    rw [List.getElem?_map, List.getElem?_map]
    by_cases hi : i < xs.length
    · rw [List.getElem?_range hi]; simp [List.getD, List.getElem?_eq_getElem hi]
    · rw [List.getElem?_eq_none (by simp; (exact Nat.le_of_not_lt (by assumption))), List.getElem?_eq_none (by (exact Nat.le_of_not_lt (by assumption)))]; rfl
  rw [er]
  exact fin acc h3 h4
theorem Zg0 {elt iter : Expr} {x : PySem.Str} {tpos} {ifs : List Expr} {scope : Scope} {pos : Pos} {cl : List (PySem.Str × Addr)} {p : Nat → Bool} {e : Nat → AV} {Q : AV → Hp → Prop} (hh : A.handled = none) (hclos : closureFor scope env = pure cl) (hcell : ∀ y ∈ scope.names, y.2 ≠ .cell) (hnames : ∀ x ∈ scope.names, x.2 = .local → scope.names.lookup x.1 = some .local)
    (hx : ∀ C, (compEnvC scope cl C env).kindOf x = some .local)
    (h : EV (model PW W0) B0 E A env iter m hp (CRP PW W0 A B0 env m x ifs elt scope cl p e fun acc hp' => Q (.ref acc) hp'))
    (hs : ∀ x, foldedSetIterable iter env x = pure x := by intro _; rfl) (hkind : scope.kind = .function := by rfl) :
    EV (model PW W0) B0 E A env (.ListComp elt [⟨.Name x tpos, iter, ifs, 0⟩] scope pos) m hp Q := fun s r => by
  rw [eval_ListComp]
  exact wpAny_comprehension_free (use := none) rfl hs hclos hkind hnames (h.use r fun u s₁ o hp₁ r₁ le₁ hu y => Zeh hh hcell hkind hx r₁ le₁ hu Zd8 y)
theorem Zg1 {elt iter : Expr} {x : PySem.Str} {tpos} {scope : Scope} {pos : Pos} {cl : List (PySem.Str × Addr)} {e : AV → AV} {Q : AV → Hp → Prop} (hh : A.handled = none) (hclos : closureFor scope env = pure cl) (hcell : ∀ y ∈ scope.names, y.2 ≠ .cell) (hnames : ∀ x ∈ scope.names, x.2 = .local → scope.names.lookup x.1 = some .local)
    (hx : ∀ C, (compEnvC scope cl C env).kindOf x = some .local)
    (h : EV (model PW W0) B0 E A env iter m hp (CLP PW W0 A B0 env m x elt scope cl e fun acc hp' => Q (.ref acc) hp'))
    (hs : ∀ x, foldedSetIterable iter env x = pure x := by intro _; rfl) (hkind : scope.kind = .function := by rfl) :
    EV (model PW W0) B0 E A env (.ListComp elt [⟨.Name x tpos, iter, [], 0⟩] scope pos) m hp Q := fun s r => by
  rw [eval_ListComp]
  exact wpAny_comprehension_free (use := none) rfl hs hclos hkind hnames (h.use r fun u s₁ o hp₁ r₁ le₁ hu y => Ze6 hh hcell hkind hx r₁ le₁ hu Zd8 y)
end
section
variable {A : Around} {E : Value → Shared → Prop} {env : Env} {m : Loc} {hp : Hp} {K : Frag}
theorem Zen {y : PySem.Str} {py spos : Pos} {elt iter : Expr} {x : PySem.Str} {tpos} {ifs : List Expr} {scope : Scope} {pos : Pos} {cl : List (PySem.Str × Addr)} {p : Nat → Bool} {e : Nat → AV} {Q : AF → Loc → Hp → Prop} (hh : A.handled = none) (hclos : closureFor scope env = pure cl) (hcell : ∀ y ∈ scope.names, y.2 ≠ .cell) (hnames : ∀ x ∈ scope.names, x.2 = .local → scope.names.lookup x.1 = some .local)
    (hx : ∀ C, (compEnvC scope cl C env).kindOf x = some .local)
    (h : EV (model PW W0) B0 E A env iter m hp (CRP PW W0 A B0 env m x ifs elt scope cl p e fun acc hp' => Q .next (upd m y (.ref acc)) hp'))
    (hs : ∀ x, foldedSetIterable iter env x = pure x := by intro _; rfl) (hkind : scope.kind = .function := by rfl) (hsw : swapsWith (.ListComp elt [⟨.Name x tpos, iter, ifs, 0⟩] scope pos) (some (.Name y py)) spos.line env = pure true := by rfl) (hly : env.kindOf y = some .local := by rfl)
    (hky : (env.scope.kind == .class || (env.scope.kind == .module && env.locals != env.globals)) = false := by rfl) :
    EX (model PW W0) B0 E A env (.Assign [.Name y py] (.ListComp elt [⟨.Name x tpos, iter, ifs, 0⟩] scope pos) spos) m hp Q := fun s r => by
  rw [exec_Assign_Name_used _ _ _ _ hsw]
  refine wpAny_bind (wpAny_standAt (wpAny_bind ?_))
  show wpAny _ _ (comprehension (.ListComp elt [⟨.Name x tpos, iter, ifs, 0⟩] scope pos) scope env (firstIterPos [⟨.Name x tpos, iter, ifs, 0⟩] pos) (newList []) false (eval iter env) (some (assign (.Name y py) env)) >>= fun _ => pure ()) _ _ _
  exact wpAny_bind (wpAny_comprehension_free (use := some (assign (.Name y py) env)) rfl hs hclos hkind hnames (h.use r fun u s₁ o hp₁ r₁ le₁ hu z => Zeh hh hcell hkind hx r₁ le₁ hu (Zf3 hly hky) z))
end
noncomputable def IsSeq (h : Heap) (t : Addr) (items : Array Value) : Prop := ∃ o n, h.get? t = some o ∧ o.data = .seq items n
theorem IsMat.seq {h : Heap} {t : Addr} {items : Array Value} (x : IsMat h t items) : IsSeq h t items := let ⟨o, ho, _, n, hd⟩ := x; ⟨o, n, ho, hd⟩
theorem IsSeq.extBut {h h' : Heap} {t it : Addr} {items : Array Value} (x : IsSeq h t items) (e : Heap.ExtBut it h h') (hne : t ≠ it) : IsSeq h' t items := let ⟨o, n, ho, hd⟩ := x; ⟨o, n, e t o hne ho, hd⟩
theorem IsSeq.push {h : Heap} {t : Addr} {items : Array Value} (x : IsSeq h t items) (ob : Obj) : IsSeq (h.push ob) t items := let ⟨o, n, ho, hd⟩ := x; ⟨o, n, Heap.get?_push_of_some _ ho, hd⟩
section
variable {A : Around} {E : Value → Shared → Prop} {s : Shared}
theorem Zmd {it t : Addr} {i : Nat} {items : Array Value} {x : Value} {Q : Option Value → Shared → Prop} (hit : IsTupIter s.heap it t i) (ht : IsSeq s.heap t items) (hx : items[i]? = some x)
    (hQ : ∀ h', IsTupIter h' it t (i + 1) → Heap.SameBut it s.heap h' → Q (some x) { s with heap := h' }) : wpAny (model PW W0) A (pyNext (.ref it)) Q E s := by
  refine hide fun Gq kq => ?_
  obtain ⟨o, ho, hc, hd⟩ := id hit
  obtain ⟨ol, nl, hol, hdl⟩ := ht
  refine kq ?_; clear kq Gq
  unfold pyNext
  refine wpAny_bind (wpAny_attempt (wpAny_callSpecial?_slot (name := PySem.Str.ofString "__next__") hit.typeIs slot_tupleiter_next (wpAny_call_entry slot_tupleiter_next hit.typeIs entry_tupleiter_next ?_ (args_tupleiter_next _))))
  show wpAny _ _ (field (.ref it) 0 >>= _) _ _ s
  refine wpAny_bind (wpAny_field ho hd (x := .ref t) rfl ?_)
  show wpAny _ _ (if (Value.ref t == Value.none) = true then _ else _) _ _ s
  rw [if_neg (show ¬ ((Value.ref t == Value.none) = true) from Bool.false_ne_true)]
  show wpAny _ _ (field (.ref it) 1 >>= _) _ _ s
  refine wpAny_bind (wpAny_field ho hd (x := .int i 0) rfl ?_)
  show wpAny _ _ (seqItems? (.ref t) >>= _) _ _ s
  refine wpAny_bind (wpAny_seqItems hol hdl ?_)
  simp only [Int.toNat_natCast, hx]
  refine wpAny_bind (wpAny_setField ho hd (by simp) (wpAny_pure ⟨x, rfl, wpAny_pure (hQ _ ?_ (Heap.SameBut.update ..))⟩))
  exact ⟨_, Heap.get?_update_self _ ho (Obj.isFreed_of_fields (Obj.data_mapFields hd _)), (Obj.cls_mapFields ..).trans hc, by rw [Obj.data_mapFields hd]; simp [rawInt]⟩
theorem Zog {it t : Addr} {i : Nat} {items : Array Value} {Q : Option Value → Shared → Prop} (hh : A.handled = none) (hit : IsTupIter s.heap it t i) (ht : IsSeq s.heap t items) (hx : items[i]? = none)
    (hQ : ∀ h', Heap.ExtBut it s.heap h' → Q none { s with heap := h' }) : wpAny (model PW W0) A (pyNext (.ref it)) Q E s := by
  refine hide fun Gq kq => ?_
  obtain ⟨o, ho, hc, hd⟩ := id hit
  obtain ⟨ol, nl, hol, hdl⟩ := ht
  refine kq ?_; clear kq Gq
  unfold pyNext
  refine wpAny_bind (wpAny_attempt (wpAny_callSpecial?_slot (name := PySem.Str.ofString "__next__") hit.typeIs slot_tupleiter_next (wpAny_call_entry slot_tupleiter_next hit.typeIs entry_tupleiter_next ?_ (args_tupleiter_next _))))
  show wpAny _ _ (field (.ref it) 0 >>= _) _ _ s
  refine wpAny_bind (wpAny_field ho hd (x := .ref t) rfl ?_)
  show wpAny _ _ (if (Value.ref t == Value.none) = true then _ else _) _ _ s
  rw [if_neg (show ¬ ((Value.ref t == Value.none) = true) from Bool.false_ne_true)]
  show wpAny _ _ (field (.ref it) 1 >>= _) _ _ s
  refine wpAny_bind (wpAny_field ho hd (x := .int i 0) rfl ?_)
  show wpAny _ _ (seqItems? (.ref t) >>= _) _ _ s
  refine wpAny_bind (wpAny_seqItems hol hdl ?_)
  simp only [Int.toNat_natCast, hx]
  refine wpAny_bind (wpAny_rule (wpAny_bind (wpAny_setField ho hd (by simp) ?_)))
  show wpAny _ _ (newExc (.type "StopIteration") [] >>= _) _ _ _
  refine wpAny_bind ?_
  simp only [newExc, newTuple]
  refine wpAny_bind (wpAny_newObj_type ?_ (by size_fits))
  refine wpAny_bind (m := firstArgMember _ _) (wpAny_of_eq (a := Value.none) (by first | rfl | (simp only [firstArgMember]; rfl)) ?_)
  refine wpAny_newObj_type ?_ (by size_fits)
  dsimp only [raiseNew]
  refine wpAny_bind (wpAny_handled ?_)
  rw [show A.in1.handled = none from hh]
  refine wpAny_bind (wpAny_pure (wpAny_throw ?_))
  refine wpAny_bind (wpAny_isInstance (T := "StopIteration") (b := true) ⟨_, Heap.get?_push_size _ rfl, rfl⟩ isSubtype_stop ?_)
  exact wpAny_pure (hQ _ (((Heap.SameBut.update ..).extBut.push _).push _))
theorem Zht {it t : Addr} {items : Array Value} (hne : t ≠ it) : ∀ (n i : Nat) (s : Shared) (Q : List Value → Shared → Prop), IsTupIter s.heap it t i → IsSeq s.heap t items → i + n ≤ items.size →
    (∀ h', IsTupIter h' it t (i + n) → Heap.SameBut it s.heap h' → Q ((items.toList.drop i).take n) { s with heap := h' }) → wpAny (model PW W0) A (draw (.ref it) n) Q E s
  | 0, i, s, Q, hit, _, _, hQ => wpAny_pure (by simpa using hQ s.heap hit (Heap.SameBut.refl ..))
  | n + 1, i, s, Q, hit, ht, hle, hQ => by
    have hlt : i < items.size := by (exact ul0 (by assumption))
    show wpAny _ _ (pyNext (.ref it) >>= _) Q E s
    refine wpAny_bind (Zmd hit ht (x := items[i]) (by simp [hlt]) fun h₁ hit₁ hs₁ => ?_)
    refine wpAny_bind (wpAny_holding (Zht hne n (i + 1) _ _ hit₁ (ht.extBut hs₁.extBut hne) (by lia) fun h₂ hit₂ hs₂ => wpAny_pure ?_))
    have hd : items.toList.drop i = items[i] :: items.toList.drop (i + 1) := by simp [List.drop_eq_getElem_cons, hlt]
    have := hQ h₂ (by rw [show i + (n + 1) = i + 1 + n by lia]; exact hit₂) (hs₁.trans hs₂)
    rw [hd, List.take_succ_cons] at this
    exact this
theorem Zob : builtinKind "tuple.__iter__" = some .slot := by decide +kernel
theorem Zl7 : splitId "tuple.__iter__" = some ("tuple", "__iter__") := by decide +kernel
theorem Zmu {K : Frag} {t : Addr} {items : Array Value} {Q : Value → Shared → Prop} (X : K.In s.heap) (hf : findIn K (.ref 135) "__iter__" = some (some (.builtin "tuple.__iter__"))) (hm : mroIn K 135 (.type "tuple") = some true) (ht : IsMat s.heap t items)
    (hQ : Q (.ref s.heap.objs.size) { s with heap := s.heap.push { cls := .type "tuple_iterator", data := .fields #[.ref t, .int 0 0] } }) : wpAny (model PW W0) A (pyIter (.ref t)) Q E s := by
  refine hide fun Gq kq => ?_
  obtain ⟨o, ho, hc, n, hd⟩ := ht
  refine kq ?_; clear kq Gq
  have t1 : Looks (model PW W0) s.heap (typeOf (.ref t)) (.ref 135) := by rw [← hc]; exact (Looks.ld ho).andThen .now
  have t2 : Looks (model PW W0) s.heap (isInstance (.ref t) (.type "tuple")) true := t1.andThen (looks_mroIn X hm)
  have t3 := looks_findIn (M := model PW W0) X hf
  have go : ∀ {W : Value → Shared → Prop}, W (.ref s.heap.objs.size) { s with heap := s.heap.push { cls := .type "tuple_iterator", data := .fields #[.ref t, .int 0 0] } } → wpAny (model PW W0) A (call (.builtin "tuple.__iter__") [.ref t]) W E s := fun {W} hW => by
    refine wpAny_call (codeAny_call_builtin slot_tuple_iter.plain entry_tuple_iter (check_slot Zob Zl7 t2 (args_tuple_iter _) ?_))
    show wpAny _ _ (do ret (← newFields "tuple_iterator" [.ref t, rawInt 0])) _ _ s
    exact wpAny_bind (wpAny_newObj_type (wpAny_pure hW))
  unfold pyIter callSpecialIfBoundUnlessNone? bindSpecialIfBound? specialOf
  refine wpAny_bind (wpAny_bind (t1.here (t3.here ?_)))
  dsimp only
  refine wpAny_bind (wpAny_holding (wpAny_bind (wpAny_bind (wpAny_bind (t1.here (t3.here ?_))))))
  dsimp only
  rw [slot_tuple_iter.bind]
  refine wpAny_bind (wpAny_askSetting (wpAny_ite ?_))
  have fin : ∀ {W : Option Value → Shared → Prop}, W (some (.ref s.heap.objs.size)) { s with heap := s.heap.push { cls := .type "tuple_iterator", data := .fields #[.ref t, .int 0 0] } } → wpAny (model PW W0) A (if (Value.builtin "tuple.__iter__" == Value.none) = true then ((do rule "iter.none"; raiseError "TypeError" s!"'{← typeNameOf (.ref t)}' object is not iterable") >>= fun v => pure (some v)) else (call (.builtin "tuple.__iter__") [.ref t] >>= fun v => pure (some v))) W E s := fun {W} hW => by
    rw [if_neg (by rw [builtin_beq_none]; decide)]
    exact wpAny_bind (go (wpAny_pure hW))
  have last : wpAny (model PW W0) A (match some (Value.ref s.heap.objs.size) with
    | some it => (do match ← specialOf it "__next__" with
      | none => rule "iter.non-iterator"; raiseError "TypeError" s!"iter() returned non-iterator of type '{← typeNameOf it}'"
      | some _ => pure it)
    | none => unsupported "") Q E { s with heap := s.heap.push { cls := .type "tuple_iterator", data := .fields #[.ref t, .int 0 0] } } :=
    wpAny_bind (wpAny_specialOf (T := "tuple_iterator") ⟨_, Heap.get?_push_size _ rfl, rfl⟩ slot_tupleiter_next.lookup (wpAny_pure hQ))
  split
  · exact wpAny_bind (wpAny_pure (wpAny_pure (fin last)))
  · exact wpAny_tryCatch (wpAny_bind (wpAny_pure (wpAny_pure (fin last))))
end
section
variable {A : Around} {E : Value → Shared → Prop} {env : Env} {m : Loc} {hp : Hp} {K : Frag}
theorem Zd6 {s : Shared} {t : Addr} {items : Array Value} {Q : List Value → Shared → Prop} (X : K.In s.heap) (hf : findIn K (.ref 135) "__iter__" = some (some (.builtin "tuple.__iter__"))) (hm : mroIn K 135 (.type "tuple") = some true) (hh : A.handled = none) (ht : IsMat s.heap t items)
    (hQ : ∀ h', Heap.ExtBut s.heap.objs.size s.heap h' → Q items.toList { s with heap := h' }) : wpAny (model PW W0) A (unpackItems (.ref t) items.size none) Q E s := by
  refine hide fun Gq kq => ?_
  have hts := ht.seq
  have hlt : t ≠ s.heap.objs.size := by obtain ⟨o, n, ho, _⟩ := hts; exact Nat.ne_of_lt (Heap.lt_size ho)
  obtain ⟨o, ho, hc, n, hd⟩ := id ht
  refine kq ?_; clear kq Gq
  have t1 : Looks (model PW W0) s.heap (typeOf (.ref t)) (.ref 135) := by rw [← hc]; exact (Looks.ld ho).andThen .now
  unfold unpackItems notIterableAtAll specialOf
  refine wpAny_bind (wpAny_bind (wpAny_bind (t1.here ((looks_findIn X hf).here ?_))))
  refine wpAny_pure ?_
  simp only [Bool.false_eq_true, if_false]
  refine wpAny_bind (wpAny_holding (Zmu X hf hm ht ?_))
  refine wpAny_bind (wpAny_holding (Zht hlt items.size 0 _ _ ⟨_, Heap.get?_push_size _ rfl, rfl, rfl⟩ (hts.push _) (by lia) fun h₁ hit₁ hs₁ => ?_))
  have hall : List.take items.size (List.drop 0 items.toList) = items.toList := by
    rw [List.drop_zero]; exact List.take_of_length_le (by simp)
  rw [hall]
  rw [if_neg (by simp)]
  have ht₁ : IsSeq h₁ t items := (hts.push _).extBut hs₁.extBut hlt
  refine wpAny_bind (wpAny_holding (Zog hh hit₁ ht₁ (by simp) fun h₂ he₂ => ?_))
  simp only [Option.isSome_none, Bool.false_eq_true, if_false]
  exact wpAny_pure (hQ h₂ fun b o hb e => he₂ b o hb (hs₁.extBut b o hb (Heap.get?_push_of_some _ e)))
theorem Zdv {elts : List Expr} {k pos} {xs : List AV} {ts : List (Value → Sem Unit)} {Q : Loc → Hp → Prop} (G : Gnd K B0) (hf : findIn K (.ref 135) "__iter__" = some (some (.builtin "tuple.__iter__"))) (hm : mroIn K 135 (.type "tuple") = some true) (hh : A.handled = none) (hts : (assignEach elts env).map (·.2) = ts) (hn : (assignEach elts env).length = xs.length) (hstar : (assignEach elts env).findIdx? (·.1) = none)
    (h : ASGS (model PW W0) B0 E A env ts xs m hp Q) : ASG (model PW W0) B0 E A env (.Tuple elts k pos) (.mat xs) m hp Q := fun s v r hv => by
  simp only [VR] at hv
  obtain ⟨a, vs, rfl, ht, hvs⟩ := hv
  rw [PyProof.Rows.assign_Tuple]
  refine wpAny_bind (wpAny_standAt ?_)
  unfold unpack
  rw [hn, hstar, ← hvs.length, Array.length_toList]
  refine wpAny_bind (wpAny_holding (Zd6 (G.X.keeps r.keep) hf hm hh ht fun h' he => ?_))
  obtain ⟨r', le⟩ := r.ext he s.toks
  rw [hts]
  exact useA (h _ _ r' (hvs.mono le)) fun _ s₂ m₂ hp₂ r₂ le₂ q => mkA r₂ (le.trans le₂) q
theorem Zb3 {a b : Int} {Q : AV → Hp → Prop} (hb : b ≠ 0) (hs : b.natAbs < 1073741824) (h : Q (.int (a.fdiv b)) hp) : OP2 (model PW W0) B0 E A env (binaryOp .FloorDiv) m (.int a) (.int b) hp Q := fun s u v r hu hv => by
  simp only [VR] at hu hv; obtain ⟨t, rfl⟩ := hu; obtain ⟨t', rfl⟩ := hv
  exact PyProof.Rows.floordiv_int hb ⟨_, hp, r.toks _, .refl _, VR_int, h⟩ (.inl (PyProof.noPylong_small hs))
theorem Zgn {a : Addr} {xs : List Int} {k : Int} {Q : AV → Hp → Prop} (hl : Lst B0 hp env.locals a (xs.map .int)) (hu : A.units + 4 < cLine) (h : Q (.bool (!xs.contains k)) hp) : OP2 (model PW W0) B0 E A env (compareOp .NotIn) m (.int k) (.ref a) hp Q := fun s u v r hu' hv => by
  have rl : RD B0 hp env.locals (.ref a) (.list (xs.map .int)) := .list hl (by
    have : ∀ xs : List Int, RDs B0 hp env.locals (xs.map .int) (xs.map .int) := fun xs => by
      induction xs with
      | nil => exact .nil
      | cons x xs ih => exact .cons (.int x) ih
    exact this xs)
  obtain ⟨as, ra⟩ := rl.reads r hv
  obtain ⟨bs, rb⟩ := (RD.int (B0 := B0) (hp := hp) (L := env.locals) k).reads r hu'
  have h1 : ∀ xs : List Int, PyData.canLayAll0 (xs.map .int) = true := by
    intro xs; induction xs with
    | nil => rfl
    | cons x xs ih => simp only [List.map_cons, PyData.canLayAll0, ih, Bool.and_true]; rfl
  refine SeqAt.notIn_list_reads ra rb (h1 xs) rfl ?_ ⟨_, hp, r, .refl _, VR_bool, ?_⟩
  · have : min (PyData.depthAll (xs.map .int)) (PyData.int k).depth ≤ (PyData.int k).depth := Nat.min_le_right _ _
    have e : (PyData.int k).depth ≤ 2 := by simp [PyData.depth]
    lia
  · have e : ∀ xs : List Int, (List.map PyData.int xs).any (fun y => y.eqv (PyData.int k)) = xs.contains k := fun xs => by
      induction xs with
      | nil => rfl
      | cons x xs ih =>
        rw [List.map_cons, List.any_cons, List.contains_cons, ih]
        congr 1
        rw [PyData.eqv, Bool.beq_comm]
    rw [e]; exact h
end
section
variable {A : Around} {E : Value → Shared → Prop} {env : Env} {m : Loc} {hp : Hp} {K : Frag}
end
section
variable {A : Around} {E : Value → Shared → Prop} {K : Frag}
theorem Zjm {f : Addr} {fd : FuncData} {body : List Stmt} {vs : List Value} {us : List (PySem.Str × Value)} {bs : List (PySem.Str × AV)} (G : Gnd K B0) (hg : B0.gens = #[]) (ho : K.lookup f = some ⟨.type "function", none, .func fd, #[]⟩) (hcd : codeIn K fd.code fd.qualname = true)
    (hbody : fd.body = .stmts body) (hroom : A.depth < recursionLimit) (hclo : fd.closure = [])
    (hb : bindArgs fd ⟨vs, []⟩ = pure us) (e1 : us.map (·.1) = bs.map (·.1)) (e2 : VRs B0.heap (bs.map (·.2)) (us.map (·.2)))
    (hkind : ∀ L, ∀ x ∈ bs, fd.scope.names.lookup x.1 = some .local ∨ (fd.scope.names.lookup x.1 = some .cell ∧ ((cellsFrom (L + 1) fd.scope.names []).lookup x.1).isSome = true))
    (h : ∀ L, EXs (model PW W0) B0 (fun _ _ => False) (A.deeper (callEnvC fd L f)) (callEnvC fd L f) body (bindLA (callEnvC fd L f).kindOf bs fun _ => none) (Za7 (fun _ => none) (cellsFrom (L + 1) fd.scope.names []) (Zdk (callEnvC fd L f).kindOf bs fun _ => none)) (fun fl _ _ => fl = .ret (.bool true)))
    (hnd : ∀ L, ∀ n c, (n, c) ∈ cellsFrom (L + 1) fd.scope.names [] → (cellsFrom (L + 1) fd.scope.names []).lookup n = some c)
    (hco : fd.scope.isCoroutine = false := by rfl) (hgen : fd.scope.isGenerator = false := by rfl) (hk : fd.scope.kind = .function := by rfl) :
    wpAny (model PW W0) A (call (.ref f) vs) (fun v s' => v = .bool true ∧ OldK B0.heap s'.heap ∧ s'.os = B0.os ∧ AllBare s'.gens) (fun _ _ => False) B0 := by
  refine wpAny_call ?_
  have hkd : ∀ x ∈ us, fd.scope.names.lookup x.1 = some .local ∨ (fd.scope.names.lookup x.1 = some .cell ∧ ((cellsFrom (B0.heap.objs.size + 1) fd.scope.names []).lookup x.1).isSome = true) := fun x hx => by
    have : x.1 ∈ bs.map (·.1) := by rw [← e1]; exact List.mem_map_of_mem hx
    obtain ⟨y, hy, e⟩ := List.mem_map.mp this
    rw [← e]; exact hkind _ y hy
  refine codeAny_call_cells hroom (G.X _ _ ho) rfl G.lim (codeRec_of G.X hcd) hbody hb hclo hkd (fun s₁ x => ?_) hco hgen hk
  refine hide fun Gq kq => ?_
  obtain ⟨⟨⟨h₁, tk₁, rfl⟩, xns, xk, xf⟩, xc, xa, xab⟩ := x
  refine kq ?_; clear kq Gq
  have le : ImmLe B0.heap h₁ := ImmLe.keep xk
  generalize hLL : B0.heap.objs.size = L at *
  change h₁.Ns L _ at xns
  have rel : Rel B0 ((Za7 (fun _ => none) (cellsFrom (L + 1) fd.scope.names []) (Zdk (callEnvC fd L f).kindOf bs fun _ => none)).set (callEnvC fd L f).locals (.ns (bindLA (callEnvC fd L f).kindOf bs fun _ => none))) { B0 with heap := h₁, toks := tk₁ } := by
    refine ⟨fun b o e => xk _ _ e, fun a o e => ?_, rfl, ⟨by show AllBare B0.gens; rw [hg]; exact fun y hy => by simp at hy, Nat.le_refl _⟩, ?_⟩
    · by_cases ha : a = L
      · subst ha
        rw [show (callEnvC fd a f).locals = a from rfl, Hp.ss] at e
        cases e
        exact ⟨Nat.le_of_eq hLL, _, xns, Zej e1 (e2.mono le) ⟨fun x v e => (by cases e), fun x _ => rfl⟩⟩
      · rw [show (callEnvC fd L f).locals = L from rfl, Hp.sn _ _ ha] at e
        unfold Za7 at e
        cases hf : (cellsFrom (L + 1) fd.scope.names []).find? (fun x => decide (x.2 = a)) with
        | some x =>
          rw [hf] at e
          cases e
          have hmem := List.mem_of_find?_eq_some hf
          have hxa : x.2 = a := by have := List.find?_some hf; simpa using this
          obtain ⟨o', ho', hd'⟩ := xc x.1 a (by have := hnd L x.1 x.2 hmem; rw [hxa] at this; exact this)
          have hlt : L < x.2 := xab x.1 x.2 hmem
          refine ⟨by rw [← hxa, hLL]; exact Nat.le_of_lt hlt, o', _, ho', hd', ?_⟩
          have hC := Zek (k := (callEnvC fd L f).kindOf) (h := h₁) e1 (e2.mono le) (m := fun _ => none) (mv := fun _ => none) ⟨fun x v e => (by cases e), fun x _ => rfl⟩
          cases hcm : Zdk (callEnvC fd L f).kindOf bs (fun _ => none) x.1 with
          | none => exact hC.2 x.1 hcm
          | some v => obtain ⟨u, hu, hvu⟩ := hC.1 x.1 v hcm; exact ⟨u, hu, hvu⟩
        | none =>
          rw [hf] at e
          cases e
    · rw [hLL]; exact Nat.le_of_lt xns.lt
  refine wpAny_mono (h L _ rel) (fun fl s' x => ?_) fun _ _ x => x.elim
  refine hide fun Gq kq => ?_
  obtain ⟨af, m', hp', r', le', hf, e⟩ := x
  subst e
  obtain ⟨u, rfl, hu⟩ := hf
  refine kq ?_; clear kq Gq
  simp only [VR] at hu; subst hu
  exact ⟨rfl, OldK.of_keep r'.keep, r'.os, r'.bare.1⟩
theorem Zhd {h : Heap} {vs : List Value} {ns : List Int} (x : IntsAre vs ns) : VRs h (ns.map .int) vs := by
  induction x with
  | nil => simp [VRs]
  | cons n t _ ih => simp only [List.map_cons, VRs]; exact ⟨_, _, rfl, VR_int, ih⟩
end
noncomputable def KS (lt : Nat → Nat → Bool) (n : Nat) {α : Type} (Q : α → Prop) : KasT α → Prop
  | .ret a => Q a
  | .ask i j k => i < n ∧ j < n ∧ KS lt n Q (k (lt i j))
section
variable {lt : Nat → Nat → Bool} {n : Nat}
theorem KS.bind {α β : Type} {f : α → KasT β} {Q : β → Prop} : ∀ {t : KasT α}, KS lt n (fun a => KS lt n Q (f a)) t → KS lt n Q (t.bind f)
  | .ret _, h => h
  | .ask _ _ _, h => ⟨h.1, h.2.1, KS.bind h.2.2⟩
theorem KS.mono {α : Type} {Q Q' : α → Prop} (hq : ∀ a, Q a → Q' a) : ∀ {t : KasT α}, KS lt n Q t → KS lt n Q' t
  | .ret _, h => hq _ h
  | .ask _ _ _, h => ⟨h.1, h.2.1, KS.mono hq h.2.2⟩
theorem KS.wp {α : Type} {cmp : Nat → Nat → (Bool → Shared → Prop) → Shared → Prop} {Q : α → Prop} {P : α → Shared → Prop} {s : Shared} (hc : ∀ i j C, i < n → j < n → C (lt i j) s → cmp i j C s) (hq : ∀ a, Q a → P a s) : ∀ {t : KasT α}, KS lt n Q t → t.kasWp cmp P s
  | .ret _, h => hq _ h
  | .ask _ _ _, h => hc _ _ _ h.1 h.2.1 (KS.wp hc hq h.2.2)
structure PM (n : Nat) (p : Array Nat) : Prop where
  sz : p.size = n
  pm : p.toList.Perm (List.range n)
theorem PM.of {p q : Array Nat} (h : PM n p) (e : q.Perm p) : PM n q := ⟨e.size_eq.trans h.sz, (Array.perm_iff_toList_perm.mp e).trans h.pm⟩
theorem PM.get {p : Array Nat} (h : PM n p) {i : Nat} (hi : i < n) : p[i]? = some (p.getD i 0) := by
  have := h.sz
  simp [Array.getD, this, hi]
theorem PM.below {p : Array Nat} (h : PM n p) {i : Nat} (hi : i < n) : p.getD i 0 < n := by
  have e := h.get hi
  have hm : p.getD i 0 ∈ p.toList := by
    rw [← Array.getElem?_toList] at e
    exact List.mem_of_getElem? e
  exact List.mem_range.mp (h.pm.mem_iff.mp hm)
theorem PM.inj {p : Array Nat} (h : PM n p) {i j : Nat} (hi : i < n) (hj : j < n) (e : p.getD i 0 = p.getD j 0) : i = j := by
  have nd : p.toList.Nodup := h.pm.nodup_iff.mpr List.nodup_range
  have a := h.get hi
  have b := h.get hj
  rw [← Array.getElem?_toList] at a b
  rw [e, ← b] at a
  have hl : i < p.toList.length := by rw [Array.length_toList, h.sz]; exact hi
  exact (List.getElem?_inj hl nd).mp a
structure TO (lt : Nat → Nat → Bool) (n : Nat) : Prop where
  tot : ∀ i j, i < n → j < n → i ≠ j → lt i j = false → lt j i = true
  trans : ∀ i j k, i < n → j < n → k < n → lt i j = true → lt j k = true → lt i k = true
noncomputable def UpTo (lt : Nat → Nat → Bool) (p : Array Nat) (k : Nat) : Prop := ∀ i j, i < j → j < k → lt (p.getD i 0) (p.getD j 0) = true
theorem UpTo.snoc (T : TO lt n) {p : Array Nat} (P : PM n p) {k : Nat} (h : UpTo lt p k) (hk : k < n) (h1 : 0 < k) (h2 : lt (p.getD (k - 1) 0) (p.getD k 0) = true) : UpTo lt p (k + 1) := fun i j hij hj => by
  by_cases e : j = k
  · subst e
    by_cases e2 : i = j - 1
    · subst e2; exact h2
    · exact T.trans _ _ _ (P.below (by (exact Nat.lt_trans (by assumption) (by assumption)))) (P.below (by (exact Nat.sub_lt_of_lt (by assumption)))) (P.below hk) (h i (j - 1) (by lia) (by (exact Zbt (by assumption)))) h2
  · exact h i j hij (by lia)
theorem Zk5 (T : TO lt n) {p : Array Nat} (P : PM n p) : ∀ f k, 1 ≤ k → k + f = n → UpTo lt p k → KS lt n (fun m => k ≤ m ∧ m ≤ n ∧ UpTo lt p m ∧ (m < n → lt (p.getD m 0) (p.getD (m - 1) 0) = true)) (kas_asc p f k)
  | 0, k, h1, hk, h => ⟨Nat.le_refl _, by lia, h, fun h => by lia⟩
  | f + 1, k, h1, hk, h => by
    refine ⟨P.below (by lia), P.below (by lia), ?_⟩
    cases e : lt (p.getD k 0) (p.getD (k - 1) 0) with
    | true => exact ⟨Nat.le_refl _, by lia, h, fun _ => e⟩
    | false =>
      dsimp only
      rw [if_neg Bool.false_ne_true]
      have h2 := T.tot _ _ (P.below (i := k) (by lia)) (P.below (i := k - 1) (by lia)) (fun e' => by have := P.inj (by lia) (by lia) e'; lia) e
      exact (Zk5 T P f (k + 1) (by (exact Nat.succ_pos _)) (by lia) (h.snoc T P (by lia) (by assumption) h2)).mono fun m ⟨a, b, c, d⟩ => ⟨by (exact Nat.le_of_lt (by assumption)), b, c, d⟩
noncomputable def DownTo (lt : Nat → Nat → Bool) (p : Array Nat) (k : Nat) : Prop := ∀ i j, i < j → j < k → lt (p.getD j 0) (p.getD i 0) = true
theorem DownTo.snoc (T : TO lt n) {p : Array Nat} (P : PM n p) {k : Nat} (h : DownTo lt p k) (hk : k < n) (h1 : 0 < k) (h2 : lt (p.getD k 0) (p.getD (k - 1) 0) = true) : DownTo lt p (k + 1) := fun i j hij hj => by
  by_cases e : j = k
  · subst e
    by_cases e2 : i = j - 1
    · subst e2; exact h2
    · exact T.trans _ _ _ (P.below hk) (P.below (by (exact Nat.sub_lt_of_lt (by assumption)))) (P.below (by (exact Nat.lt_trans (by assumption) (by assumption)))) h2 (h i (j - 1) (by lia) (by (exact Zbt (by assumption))))
  · exact h i j hij (by lia)
theorem Zkz (T : TO lt n) {p : Array Nat} (P : PM n p) : ∀ f k, 1 ≤ k → k + f = n → DownTo lt p k → KS lt n (fun r => ∃ m, r = (p, m, 0) ∧ k ≤ m ∧ m ≤ n ∧ DownTo lt p m) (kas_desc f p k 0)
  | 0, k, h1, hk, h => ⟨k, rfl, Nat.le_refl _, by lia, h⟩
  | f + 1, k, h1, hk, h => by
    refine ⟨P.below (by lia), P.below (by lia), ?_⟩
    cases e : lt (p.getD k 0) (p.getD (k - 1) 0) with
    | true =>
      dsimp only
      rw [if_pos rfl, if_neg (by decide)]
      exact (Zkz T P f (k + 1) (by (exact Nat.succ_pos _)) (by lia) (h.snoc T P (by lia) (by assumption) e)).mono fun r ⟨m, a, b, c, d⟩ => ⟨m, a, by (exact Nat.le_of_lt (by assumption)), c, d⟩
    | false =>
      dsimp only
      rw [if_neg Bool.false_ne_true]
      have h2 := T.tot _ _ (P.below (i := k) (by lia)) (P.below (i := k - 1) (by lia)) (fun e' => by have := P.inj (by lia) (by lia) e'; lia) e
      refine ⟨P.below (by lia), P.below (by lia), ?_⟩
      rw [h2]
      dsimp only
      rw [if_pos rfl]
      exact ⟨k, rfl, Nat.le_refl _, by lia, h⟩
theorem Zpu {p : Array Nat} (P : PM n p) {k : Nat} (hk : k ≤ n) (h : DownTo lt p k) : UpTo lt (kas_rev p 0 k) k := fun i j hij hj => by
  have g : ∀ i, i < k → (kas_rev p 0 k).getD i 0 = p.getD (k - 1 - i) 0 := fun i hi => by
    have e := getElem?_mirror_all (xs := p) (i := 0) (j := k) (by rw [P.sz]; exact hk) i
    rw [if_pos ⟨Nat.zero_le _, hi⟩] at e
    unfold kas_rev
    simp only [Array.getD_eq_getD_getElem?]
    rw [e]
    congr 2
    lia
  rw [g i (by (exact Nat.lt_trans (by assumption) (by assumption))), g j (by omega)]
  exact h _ _ (by omega) (by lia)
theorem Zl8 (T : TO lt n) {p : Array Nat} (P : PM n p) {k : Nat} (h1 : 1 ≤ k) (hk : k ≤ n) (h : DownTo lt p k) : KS lt n (fun r => PM n r.2 ∧ 1 ≤ r.1 ∧ r.1 ≤ n ∧ UpTo lt r.2 r.1) (kas_tail3 k n p) := by
  unfold kas_tail3
  have P' : PM n (kas_rev p 0 k) := P.of (mirror_perm _ _ _ _)
  exact KS.bind ((Zk5 T P' (n - k) k h1 (by lia) (Zpu P hk h)).mono fun m ⟨a, b, c, _⟩ => ⟨P', by show 1 ≤ m; (exact Nat.lt_of_lt_of_le (by assumption) (by assumption)), b, c⟩)
theorem Zm0 (T : TO lt n) {p : Array Nat} (P : PM n p) (h2 : 2 ≤ n) : KS lt n (fun r => PM n r.2 ∧ 1 ≤ r.1 ∧ r.1 ≤ n ∧ UpTo lt r.2 r.1) (kas_count n p) := by
  unfold kas_count
  refine KS.bind ((Zk5 T P (n - 1) 1 (Nat.le_refl _) (by lia) (fun i j a b => by lia)).mono fun m yq => ?_)
  refine hide fun Gq kq => ?_
  obtain ⟨a, b, c, d⟩ := yq
  refine kq ?_; clear kq Gq
  by_cases e : m = n
  · subst e; rw [if_pos (by simp)]; exact ⟨P, a, Nat.le_refl _, c⟩
  · rw [if_neg (by simpa using e)]
    by_cases e1 : m > 1
    · rw [if_pos e1]
      refine ⟨P.below (by (exact Nat.lt_of_succ_lt (by assumption))), P.below (by lia), ?_⟩
      rw [c 0 (m - 1) (by lia) (by (exact Zbt (by assumption)))]
      dsimp only
      rw [if_pos rfl]
      exact ⟨P, a, b, c⟩
    · rw [if_neg e1]
      have em : m = 1 := by lia
      subst em
      unfold kas_descPart
      refine KS.bind ((Zkz T P (n - 2) 2 (by (exact Nat.le_succ _)) (by lia) (fun i j hij hj => ?_)).mono fun r ⟨k, hr, k1, k2, k3⟩ => ?_)
      · have := d (by assumption)
        have e : i = 0 ∧ j = 1 := by lia
        rw [e.1, e.2]; exact this
      · subst hr
        rw [if_neg (Nat.lt_irrefl 0)]
        exact Zl8 T P (k := k) (by (exact Nat.le_of_lt (by assumption))) k2 k3
theorem Zff (T : TO lt n) {p : Array Nat} (P : PM n p) {k : Nat} (hk : k < n) (hu : UpTo lt p k) : ∀ f l r, l ≤ r → r ≤ k → r - l ≤ f → (∀ i, i < l → lt (p.getD i 0) (p.getD k 0) = true) → (∀ i, r ≤ i → i < k → lt (p.getD k 0) (p.getD i 0) = true) →
    KS lt n (fun m => m ≤ k ∧ (∀ i, i < m → lt (p.getD i 0) (p.getD k 0) = true) ∧ (∀ i, m ≤ i → i < k → lt (p.getD k 0) (p.getD i 0) = true)) (kas_place p k f l r)
  | 0, l, r, h1, h2, h3, h4, h5 => by
    have : l = r := by lia
    subst this
    exact ⟨h2, h4, h5⟩
  | f + 1, l, r, h1, h2, h3, h4, h5 => by
    unfold kas_place
    by_cases hl : l ≥ r
    · rw [if_pos hl]
      have : l = r := by (exact Nat.le_antisymm (by assumption) (by assumption))
      subst this
      exact ⟨h2, h4, h5⟩
    · rw [if_neg hl]
      refine ⟨P.below hk, P.below (by lia), ?_⟩
      cases e : lt (p.getD k 0) (p.getD ((l + r) / 2) 0) with
      | true =>
        dsimp only
        rw [if_pos rfl]
        refine Zff T P hk hu f l _ (by lia) (by lia) (by lia) h4 fun i hi hik => ?_
        by_cases e2 : i = (l + r) / 2
        · subst e2; exact e
        · exact T.trans _ _ _ (P.below hk) (P.below (by lia)) (P.below (by (exact Nat.lt_trans (by assumption) (by assumption)))) e (hu _ _ (by lia) hik)
      | false =>
        dsimp only
        rw [if_neg Bool.false_ne_true]
        have h6 := T.tot _ _ (P.below hk) (P.below (i := (l + r) / 2) (by lia)) (fun e' => by have := P.inj hk (by lia) e'; lia) e
        refine Zff T P hk hu f _ r (by lia) h2 (by lia) (fun i hi => ?_) h5
        by_cases e2 : i = (l + r) / 2
        · subst e2; exact h6
        · exact T.trans _ _ _ (P.below (by lia)) (P.below (by lia)) (P.below hk) (hu _ _ (by lia) (by lia)) h6
theorem Znz (T : TO lt n) : ∀ f (p : Array Nat) k, k + f = n → PM n p → UpTo lt p k → KS lt n (fun q => PM n q ∧ UpTo lt q n) (kas_bin f p k)
  | 0, p, k, hk, P, h => by
    have : k = n := by omega
    subst this
    exact ⟨P, h⟩
  | f + 1, p, k, hk, P, h => by
    unfold kas_bin
    have hkn : k < n := by lia
    refine KS.bind ((Zff T P hkn h k 0 k (Nat.zero_le _) (Nat.le_refl _) (by (exact Nat.sub_le ..)) (fun i hi => by lia) (fun i a b => by lia)).mono fun m yq => ?_)
    obtain ⟨a, b, c⟩ := yq
    refine Znz T f _ (k + 1) (by lia) (P.of (bubble_perm _ _ _)) fun i j hij hj => ?_
    have g : ∀ i, i ≤ k → (bubble p k (k - m)).getD i 0 = if i = m then p.getD k 0 else if m < i then p.getD (i - 1) 0 else p.getD i 0 := fun i hi => by
      have e := getElem?_bubble (xs := p) (src := k) (by rw [P.sz]; exact hkn) (k - m) (by (exact Nat.sub_le ..)) i
      simp only [Array.getD_eq_getD_getElem?]
      rw [e, show k - (k - m) = m from by lia]
      by_cases e1 : i = m
      · rw [if_pos e1, if_pos e1]
      · rw [if_neg e1, if_neg e1]
        by_cases e2 : m < i
        · rw [if_pos ⟨e2, hi⟩, if_pos e2]
        · rw [if_neg (fun h => e2 h.1), if_neg e2]
    rw [g i (by lia), g j (by (exact Nat.le_of_lt_succ (by assumption)))]
    by_cases e1 : i = m
    · rw [if_pos e1, if_neg (by lia), if_pos (by lia)]
      exact c _ (by lia) (by lia)
    · rw [if_neg e1]
      by_cases e2 : j = m
      · rw [if_pos e2, if_neg (by lia)]
        exact b _ (by lia)
      · rw [if_neg e2]
        by_cases e3 : m < i
        · rw [if_pos e3, if_pos (by (exact Nat.lt_trans (by assumption) (by assumption)))]; exact h _ _ (by lia) (by lia)
        · rw [if_neg e3]
          by_cases e4 : m < j
          · rw [if_pos e4]
            exact h _ _ (by lia) (by lia)
          · rw [if_neg e4]; exact h _ _ (by omega) (by lia)
theorem Zof (T : TO lt n) (h2 : 2 ≤ n) : KS lt n (fun q => PM n q ∧ UpTo lt q n) (kas_sort n) := by
  unfold kas_sort
  have P0 : PM n (List.toArray (List.range n)) := ⟨by simp, by simp⟩
  refine KS.bind ((Zm0 T P0 h2).mono fun r yq => ?_)
  refine hide fun Gq kq => ?_
  obtain ⟨a, b, c, d⟩ := yq
  refine kq ?_; clear kq Gq
  by_cases e : r.1 < n
  · rw [if_pos e, show max r.1 1 = r.1 from by lia]
    exact Znz T _ _ _ (by lia) a d
  · rw [if_neg e]
    have : r.1 = n := by lia
    exact ⟨a, by rw [this] at d; exact d⟩
end
noncomputable def lexB (x y : Int × Int × Int) : Bool := if x.1 = y.1 then (if x.2.1 = y.2.1 then decide (x.2.2 < y.2.2) else decide (x.2.1 < y.2.1)) else decide (x.1 < y.1)
noncomputable def triV (x : Int × Int × Int) : AV := .mat [.int x.1, .int x.2.1, .int x.2.2]
theorem Zdr {x y : Int × Int × Int} (h : lexB x y = false) (hn : x ≠ y) : lexB y x = true := by
  obtain ⟨a, b, c⟩ := x; obtain ⟨d, e, f⟩ := y
  unfold lexB at *
  dsimp only at *
  by_cases h1 : a = d
  · subst h1
    rw [if_pos rfl] at h ⊢
    by_cases h2 : b = e
    · subst h2
      rw [if_pos rfl] at h ⊢
      have : c ≠ f := fun e => hn (by rw [e])
      simp only [decide_eq_false_iff_not] at h; simp only [decide_eq_true_eq]; lia
    · rw [if_neg h2] at h; rw [if_neg (Ne.symm h2)]
      simp only [decide_eq_false_iff_not] at h; simp only [decide_eq_true_eq]; lia
  · rw [if_neg h1] at h; rw [if_neg (Ne.symm h1)]
    simp only [decide_eq_false_iff_not] at h; simp only [decide_eq_true_eq]; lia
theorem Zfm {x y : Int × Int × Int} : lexB x y = true ↔ x.1 < y.1 ∨ (x.1 = y.1 ∧ (x.2.1 < y.2.1 ∨ (x.2.1 = y.2.1 ∧ x.2.2 < y.2.2))) := by
  unfold lexB
  by_cases h : x.1 = y.1
  · rw [if_pos h]
    by_cases h2 : x.2.1 = y.2.1
    · rw [if_pos h2, decide_eq_true_eq]
      refine ⟨fun q => .inr ⟨h, .inr ⟨h2, q⟩⟩, fun q => ?_⟩
      rcases q with q | ⟨_, q | ⟨_, q⟩⟩
      · exact absurd h (Int.ne_of_lt q)
      · exact absurd h2 (Int.ne_of_lt q)
      · exact q
    · rw [if_neg h2, decide_eq_true_eq]
      refine ⟨fun q => .inr ⟨h, .inl q⟩, fun q => ?_⟩
      rcases q with q | ⟨_, q | ⟨e, _⟩⟩
      · exact absurd h (Int.ne_of_lt q)
      · exact q
      · exact absurd e h2
  · rw [if_neg h, decide_eq_true_eq]
    exact ⟨.inl, fun q => q.elim (fun q => q) fun q => absurd q.1 h⟩
theorem Zcx {x y z : Int × Int × Int} (h1 : lexB x y = true) (h2 : lexB y z = true) : lexB x z = true := by
  rw [Zfm] at *; exact Zkb h1 h2
theorem Zea (x : Int × Int × Int) : lexB x x = false := by
  cases h : lexB x x with
  | false => rfl
  | true => rw [Zfm] at h; exact (h.elim (Int.lt_irrefl _) fun h => h.2.elim (Int.lt_irrefl _) fun h => Int.lt_irrefl _ h.2 : False).elim
theorem Zms {xs ys : List (Int × Int × Int)} (p : xs.Perm ys) (h1 : xs.Pairwise (fun a b => lexB a b = true)) (h2 : ys.Pairwise (fun a b => lexB a b = true)) : xs = ys :=
  p.eq_of_pairwise (fun a b _ _ h1 h2 => by have := Zcx h1 h2; rw [Zea] at this; cases this) h1 h2
theorem Zfc (a b : Value) : Builtin.«tuple.__lt__» ⟨[a, b], []⟩ = (do
    if !(← isInstance b (.type "tuple")) then return ← ret .notImplemented
    let xs ← Builtin.Tuple.tupleItemsOf a
    let ys ← Builtin.Tuple.tupleItemsOf b
    for (x, y) in xs.toList.zip ys.toList do
      if !(← eqBool x y) then
        rule "tuple.compare.by-the-first-pair-that-differs"; return ← ret (← richCompare .Lt x y)
    ret (Builtin.Tuple.tupleCompareSizes .Lt xs.size ys.size)) := rfl
theorem Zn9 : builtinKind "tuple.__lt__" = some .slot := by decide +kernel
theorem Zl6 : splitId "tuple.__lt__" = some ("tuple", "__lt__") := by decide +kernel
section
variable {A : Around} {E : Value → Shared → Prop} {s : Shared} {K : Frag}
noncomputable def IsTri (h : Heap) (a : Addr) (x : Int × Int × Int) : Prop := ∃ t u v, IsMat h a #[.int x.1 t, .int x.2.1 u, .int x.2.2 v]
theorem Zec {a : Addr} {vs : Array Value} {Q : Array Value → Shared → Prop} (h : IsMat s.heap a vs) (q : Q vs s) : wpAny (model PW W0) A (Builtin.Tuple.tupleItemsOf (.ref a)) Q E s := by
  refine hide fun Gq kq => ?_
  obtain ⟨o, ho, _, n, hd⟩ := h
  refine kq ?_; clear kq Gq
  unfold Builtin.Tuple.tupleItemsOf
  exact wpAny_bind (wpAny_seqItems ho hd (wpAny_pure q))
theorem Zoa {a b : Addr} {x y : Int × Int × Int} {P : PySem.Fin → Shared → Prop} (hi : Looks (model PW W0) s.heap (isInstance (.ref b) (.type "tuple")) true) (ha : IsTri s.heap a x) (hb : IsTri s.heap b y)
    (h : P (.done (.ret (.bool (lexB x y)))) s) : wpAny (model PW W0) A (Builtin.«tuple.__lt__» ⟨[.ref a, .ref b], []⟩) P E s := by
  refine hide fun Gq kq => ?_
  obtain ⟨t1, t2, t3, ha⟩ := ha
  obtain ⟨u1, u2, u3, hb⟩ := hb
  refine kq ?_; clear kq Gq
  rw [Zfc]
  refine wpAny_bind (hi.here ?_)
  simp only [Bool.not_true, Bool.false_eq_true, if_false]
  refine wpAny_bind (Zec ha (wpAny_bind (Zec hb ?_)))
  have hz : (#[Value.int x.1 t1, .int x.2.1 t2, .int x.2.2 t3] : Array Value).toList.zip (#[Value.int y.1 u1, .int y.2.1 u2, .int y.2.2 u3] : Array Value).toList = [(.int x.1 t1, .int y.1 u1), (.int x.2.1 t2, .int y.2.1 u2), (.int x.2.2 t3, .int y.2.2 u3)] := rfl
  rw [hz]
  simp only [List.forIn_cons, List.forIn_nil]
  unfold lexB at h
  refine wpAny_bind (wpAny_bind (wpAny_bind (wpAny_eqBool_int ?_)))
  by_cases h1 : x.1 = y.1
  · rw [if_pos h1] at h
    rw [show (x.1 == y.1) = true from beq_iff_eq.mpr h1]
    simp only [Bool.not_true, Bool.false_eq_true, if_false]
    refine wpAny_pure ?_
    dsimp only
    refine wpAny_bind (wpAny_bind (wpAny_eqBool_int ?_))
    by_cases h2 : x.2.1 = y.2.1
    · rw [if_pos h2] at h
      rw [show (x.2.1 == y.2.1) = true from beq_iff_eq.mpr h2]
      simp only [Bool.not_true, Bool.false_eq_true, if_false]
      refine wpAny_pure ?_
      dsimp only
      refine wpAny_bind (wpAny_bind (wpAny_eqBool_int ?_))
      by_cases h3 : x.2.2 = y.2.2
      · rw [show (x.2.2 == y.2.2) = true from beq_iff_eq.mpr h3]
        simp only [Bool.not_true, Bool.false_eq_true, if_false]
        refine wpAny_pure ?_
        dsimp only
        refine wpAny_pure ?_
        dsimp only
        have e : decide (x.2.2 < y.2.2) = false := by simp only [decide_eq_false_iff_not]; lia
        rw [e] at h
        exact wpAny_pure h
      · rw [show (x.2.2 == y.2.2) = false from beq_eq_false_iff_ne.mpr h3]
        simp only [Bool.not_false, if_true]
        refine wpAny_bind (wpAny_rule (wpAny_bind (lt_int (wpAny_bind (wpAny_pure (wpAny_pure (wpAny_pure (wpAny_pure h))))))))
    · rw [if_neg h2] at h
      rw [show (x.2.1 == y.2.1) = false from beq_eq_false_iff_ne.mpr h2]
      simp only [Bool.not_false, if_true]
      refine wpAny_bind (wpAny_rule (wpAny_bind (lt_int (wpAny_bind (wpAny_pure (wpAny_pure (wpAny_pure (wpAny_pure h))))))))
  · rw [if_neg h1] at h
    rw [show (x.1 == y.1) = false from beq_eq_false_iff_ne.mpr h1]
    simp only [Bool.not_false, if_true]
    refine wpAny_bind (wpAny_rule (wpAny_bind (lt_int (wpAny_bind (wpAny_pure (wpAny_pure (wpAny_pure (wpAny_pure h))))))))
theorem Zp5 {a b : Addr} {x y : Int × Int × Int} {Q : Bool → Shared → Prop} (hu : A.units < cLine) (X : K.In s.heap) (hf : findIn K (.ref 135) "__lt__" = some (some (.builtin "tuple.__lt__"))) (hm : mroIn K 135 (.type "tuple") = some true) (ha : IsTri s.heap a x) (hb : IsTri s.heap b y)
    (h : Q (lexB x y) s) : wpAny (model PW W0) A (keyLt' oneType' (.ref a) (.ref b)) Q E s := by
  have ty : ∀ {c : Addr} {z : Int × Int × Int}, IsTri s.heap c z → Looks (model PW W0) s.heap (typeOf (.ref c)) (.ref 135) := fun {c z} hc => by
    obtain ⟨_, _, _, o, ho, hc, _⟩ := hc
    rw [← hc]; exact (Looks.ld ho).andThen .now
  have t1 := ty ha
  have t2 : Looks (model PW W0) s.heap (isInstance (.ref a) (.type "tuple")) true := t1.andThen (looks_mroIn X hm)
  have t4 : Looks (model PW W0) s.heap (isInstance (.ref b) (.type "tuple")) true := (ty hb).andThen (looks_mroIn X hm)
  have t3 := looks_findIn (M := model PW W0) X hf
  have go : ∀ {W : Value → Shared → Prop}, W (.bool (lexB x y)) s → wpAny (model PW W0) A (call (.builtin "tuple.__lt__") [.ref a, .ref b]) W E s := fun {W} hW => by
    refine wpAny_call (codeAny_call_builtin (F.slot_tuple_lt).plain F.entry_tuple_lt (check_slot Zn9 Zl6 t2 (F.args_tuple_lt_2 _ _) ?_))
    exact Zoa t4 ha hb hW
  rw [keyLt'_oneType, oneLt'_eq]
  simp only [if_true]
  refine wpAny_bind (wpAny_cRoomFor hu ?_)
  refine wpAny_bind ?_
  simp only [callSpecialIfBound?, bindSpecialIfBound?, specialOf]
  refine wpAny_holding (wpAny_bind (wpAny_bind (wpAny_bind (t1.here (t3.here ?_)))))
  dsimp only
  rw [show bindSpecial (Value.builtin "tuple.__lt__") (.ref a) = pure (Value.builtin "tuple.__lt__", [.ref a]) from (F.slot_tuple_lt).bind _]
  refine wpAny_bind (wpAny_askSetting (wpAny_ite ?_))
  have fin : ∀ {W : Option Value → Shared → Prop}, W (some (.bool (lexB x y))) s → wpAny (model PW W0) A (call (.builtin "tuple.__lt__") ([.ref a] ++ [.ref b]) >>= fun v => pure (some v)) W E s := fun {W} hW => wpAny_bind (go (wpAny_pure hW))
  have last : wpAny (model PW W0) A (truthOfDropped (.bool (lexB x y))) Q E s := wpAny_truthy_bool h
  split
  · exact wpAny_bind (wpAny_pure (wpAny_pure (fin last)))
  · exact wpAny_tryCatch (wpAny_bind (wpAny_pure (wpAny_pure (fin last))))
end
noncomputable abbrev Tri := Int × Int × Int
theorem Zko {α : Type} {xs : List α} {i : Nat} {d : α} (h : i < xs.length) : xs.getD i d = xs[i] := by simp [List.getD, h]
theorem Zcy {α : Type} {xs : List α} {i : Nat} {d : α} (h : i < xs.length) : xs[i]? = some (xs.getD i d) := by simp [List.getD, h]
theorem IsTri.imm {h h' : Heap} (le : ImmLe h h') {a : Addr} {x : Tri} (y : IsTri h a x) : IsTri h' a x := let ⟨t, u, v, z⟩ := y; ⟨t, u, v, z.imm le⟩
theorem Zpq {h : Heap} {xs : List Tri} {vs : List Value} (hv : VRs h (xs.map triV) vs) {i : Nat} {x : Tri} (hi : xs[i]? = some x) : ∃ b, vs[i]? = some (.ref b) ∧ IsTri h b x := by
  refine hide fun Gq kq => ?_
  obtain ⟨v, e, hv⟩ := hv.get (i := i) (x := triV x) (by rw [List.getElem?_map, hi]; rfl)
  unfold triV at hv
  simp only [VR] at hv
  obtain ⟨b, us, rfl, hm, hu⟩ := hv
  refine kq ?_; clear kq Gq
  refine ⟨b, e, ?_⟩
  refine hide fun Gq kq => ?_
  simp only [VRs, VR] at hu
  obtain ⟨v1, r1, e1, ⟨t1, h1⟩, v2, r2, e2, ⟨t2, h2⟩, v3, r3, e3, ⟨t3, h3⟩, e4⟩ := hu
  subst e4; subst h3; subst e3; subst h2; subst e2; subst h1
  refine kq ?_; clear kq Gq
  exact ⟨t1, t2, t3, by rw [show us = #[Value.int x.1 t1, .int x.2.1 t2, .int x.2.2 t3] from Array.toList_inj.mp e1] at hm; exact hm⟩
theorem Ze8 {h : Heap} : ∀ {xs : List AV} {vs : List Value}, xs.length = vs.length → (∀ (i : Nat) x v, xs[i]? = some x → vs[i]? = some v → VR h x v) → VRs h xs vs
  | [], vs, hl, _ => by
    cases vs with
    | nil => simp only [VRs]
    | cons _ _ => simp at hl
  | x :: xs, vs, hl, hg => by
    cases vs with
    | nil => simp at hl
    | cons v vs =>
      simp only [VRs]
      exact ⟨v, vs, rfl, hg 0 x v rfl rfl, Ze8 (by simpa using hl) fun i y u hy hu => hg (i + 1) y u (by simpa using hy) (by simpa using hu)⟩
section
variable {A : Around} {E : Value → Shared → Prop} {env : Env} {m : Loc} {hp : Hp} {K : Frag}
theorem Zrj {xs : List Tri} (nd : xs.Nodup) : TO (fun i j => lexB (xs.getD i (0, 0, 0)) (xs.getD j (0, 0, 0))) xs.length where
  tot i j hi hj hn h := Zdr h fun e => by
    rw [Zko hi, Zko hj] at e
    exact hn ((List.getElem_inj nd).mp e)
  trans i j k _ _ _ h1 h2 := Zcx h1 h2
theorem Zjl {α : Type} {M : Model} {A : Around} {x y : Sem α} {P : α → Shared → Prop} {E : Value → Shared → Prop} {s : Shared} (e : x = y) (h : wpAny M A y P E s) : wpAny M A x P E s := e ▸ h
theorem Zjr {a : Addr} {xs : List Tri} {s : Shared} {P : PySem.Fin → Shared → Prop} (G : Gnd K B0) (hf : findIn K (.ref 135) "__lt__" = some (some (.builtin "tuple.__lt__"))) (hm : mroIn K 135 (.type "tuple") = some true) (hu : A.units < cLine)
    (r : Rel B0 (hp.set env.locals (.ns m)) s) (ha : hp a = some (.list (xs.map triV))) (hL : a ≠ env.locals) (nd : xs.Nodup) (h64 : xs.length < 64)
    (h : ∀ (ys : List Tri) s', ys.Perm xs → ys.Pairwise (fun a b => lexB a b = true) → Rel B0 ((hp.set a (.list (ys.map triV))).set env.locals (.ns m)) s' → ImmLe s.heap s'.heap → P (.done (.ret .none)) s') : wpAny (model PW W0) A (Builtin.«list.sort» ⟨[.ref a], []⟩) P E s := by
  refine hide fun Gq kq => ?_
  obtain ⟨vs, n, hl, hvs⟩ := r.at ha hL
  have hsz : vs.size = xs.length := by rw [← Array.length_toList, hvs.length, List.length_map]
  have har : (hp.set env.locals (.ns m)) a = some (.list (xs.map triV)) := Hp.snt hL ha
  obtain ⟨e1, ho1⟩ : ∃ e1, (s.heap.update a (Obj.mapSeq fun _ => (#[] : Array Value))).get? a = some (seqObj "list" #[] e1) := ⟨_, get?_update_seq hl fun _ => #[]⟩
  obtain ⟨r1, le1⟩ := r.turn har (h' := s.heap.update a (Obj.mapSeq fun _ => (#[] : Array Value))) (Heap.SameBut.update ..) (.list []) (fun _ => ⟨#[], e1, ho1, by simp [VRs]⟩) s.toks
  refine kq ?_; clear kq Gq
  have r2 := (r1.push (seqObj "tuple" vs 0)).push (seqObj "list" #[] 0)
  have le2 : ImmLe s.heap (((s.heap.update a (Obj.mapSeq fun _ => (#[] : Array Value))).push (seqObj "tuple" vs 0)).push (seqObj "list" #[] 0)) := le1.trans (ImmLe.keep fun b o e => Heap.get?_push_of_some _ (Heap.get?_push_of_some _ e))
  have ho2 : (((s.heap.update a (Obj.mapSeq fun _ => (#[] : Array Value))).push (seqObj "tuple" vs 0)).push (seqObj "list" #[] 0)).get? a = some (seqObj "list" #[] e1) := Heap.get?_push_of_some _ (Heap.get?_push_of_some _ ho1)
  have fin : ∀ (ps : List Nat) (hp' : ps.Perm (List.range xs.length)), (ps.map fun i => xs.getD i (0, 0, 0)).Pairwise (fun a b => lexB a b = true) →
      P (.done (.ret .none)) { s with heap := (((s.heap.update a (Obj.mapSeq fun _ => (#[] : Array Value))).push (seqObj "tuple" vs 0)).push (seqObj "list" #[] 0)).update a (Obj.mapSeq fun _ => List.toArray (ps.map fun i => vs.toList.getD i Value.none)) } := fun ps hp' hpw => by
    obtain ⟨c2, hc2⟩ : ∃ c2, ((((s.heap.update a (Obj.mapSeq fun _ => (#[] : Array Value))).push (seqObj "tuple" vs 0)).push (seqObj "list" #[] 0)).update a (Obj.mapSeq fun _ => List.toArray (ps.map fun i => vs.toList.getD i Value.none))).get? a = some (seqObj "list" (List.toArray (ps.map fun i => vs.toList.getD i Value.none)) c2) := ⟨_, get?_update_seq ho2 fun _ => _⟩
    obtain ⟨r3, le3⟩ := r2.turn (Hp.ss ..) (h' := (((s.heap.update a (Obj.mapSeq fun _ => (#[] : Array Value))).push (seqObj "tuple" vs 0)).push (seqObj "list" #[] 0)).update a (Obj.mapSeq fun _ => List.toArray (ps.map fun i => vs.toList.getD i Value.none))) (Heap.SameBut.update ..) (.list ((ps.map fun i => xs.getD i (0, 0, 0)).map triV)) (fun le => ⟨_, c2, hc2, by
      refine Ze8 (by simp) fun i x v hx hv => ?_
      simp only [List.map_map, List.getElem?_map, Option.map_eq_some_iff, Function.comp] at hx hv
      obtain ⟨k, hk, rfl⟩ := hx
      obtain ⟨k', hk', rfl⟩ := hv
      rw [hk] at hk'; cases hk'
      have hkl : k < xs.length := List.mem_range.mp (hp'.mem_iff.mp (List.mem_of_getElem? hk))
      obtain ⟨v, e, hv⟩ := hvs.get (i := k) (x := triV (xs.getD k (0, 0, 0))) (by rw [List.getElem?_map, Zcy (d := (0, 0, 0)) hkl]; rfl)
      have : vs.toList.getD k Value.none = v := by rw [List.getD_eq_getElem?_getD, e]; rfl
      rw [this]
      exact hv.mono (le2.trans le)⟩) s.toks
    rw [Hp.set_set, Hp.sc _ _ _ (Ne.symm hL)] at r3
    refine h _ _ ?_ hpw r3 (le2.trans le3)
    have : (List.range xs.length).map (fun i => xs.getD i (0, 0, 0)) = xs := by
      apply List.ext_getElem?
      intro i
      rw [List.getElem?_map]
      by_cases hi : i < xs.length
      · rw [List.getElem?_range hi]; simp [hi]
      · rw [List.getElem?_eq_none (by simp; (exact Nat.le_of_not_lt (by assumption))), List.getElem?_eq_none (by (exact Nat.le_of_not_lt (by assumption)))]; rfl
    rw [← this]
    have := hp'.map (fun i => xs.getD i (0, 0, 0))
    rw [‹(List.range xs.length).map (fun i => xs.getD i (0, 0, 0)) = xs›] at this ⊢
    exact this
  refine Zjl (list_sort_plain ..) ?_
  refine wpAny_bind (listItems_at hl rfl ?_)
  refine wpAny_bind (listUpdate_at hl rfl ?_ (by rw [hsz, sizeLine_eq]; lia) (Nat.zero_le _))
  refine wpAny_bind (seqEpoch_at ho1 rfl ?_)
  refine wpAny_bind (wpAny_newTuple ?_ (by rw [Array.length_toList, hsz, sizeLine_eq]; lia))
  refine wpAny_bind (wpAny_newList ?_ (Nat.zero_le _))
  refine wpAny_holding ?_
  show wpAny (model PW W0) A _ P E { s with heap := ((s.heap.update a (Obj.mapSeq fun _ => (#[] : Array Value))).push (seqObj "tuple" vs.toList.toArray 0)).push (seqObj "list" #[] 0) }
  rw [show vs.toList.toArray = vs by simp]
  dsimp only
  by_cases h2 : vs.size < 2
  · rw [if_pos h2, if_pos h2]
    refine wpAny_bind (wpAny_pure ?_)
    rw [StateT.run_pure]
    refine wpAny_bind (wpAny_pure ?_)
    dsimp only
    refine wpAny_bind (seqEpoch_at ho2 rfl ?_)
    have e0 : (arrOf (SortSt.mk' general' (vs.zip vs) #[] 7 none)).map (·.2) = List.toArray ((List.range xs.length).map fun i => vs.toList.getD i Value.none) := by
      apply Array.ext_getElem?
      intro i
      show ((vs.zip vs).map (·.2))[i]? = _
      by_cases hi : i < vs.size
      · have hi' : i < xs.length := by lia
        simp [hi, hi', List.getElem?_range]
      · have hi' : ¬ i < xs.length := by lia
        simp [hi, hi']
    refine wpAny_bind (listUpdate_at ho2 rfl ?_ (Nat.zero_le _) (by rw [e0]; simp; rw [sizeLine_eq]; lia))
    simp only [bne_self_eq_false, Bool.false_eq_true, if_false]
    rw [e0]
    refine wpAny_pure (fin _ (List.Perm.refl _) ?_)
    match xs, hsz with
    | [], _ => exact List.Pairwise.nil
    | [x], _ => exact List.pairwise_singleton _ _
    | x :: y :: r, hz => simp at hz; lia
  · rw [if_neg h2, if_neg h2]
    have X2 := G.X.keeps r2.keep
    have tri : ∀ i, i < xs.length → ∃ b, vs.toList.getD i Value.none = .ref b ∧ IsTri (((s.heap.update a (Obj.mapSeq fun _ => (#[] : Array Value))).push (seqObj "tuple" vs 0)).push (seqObj "list" #[] 0)) b (xs.getD i (0, 0, 0)) := fun i hi => by
      obtain ⟨b, e, ht⟩ := Zpq hvs (i := i) (x := xs.getD i (0, 0, 0)) (Zcy hi)
      exact ⟨b, by rw [List.getD_eq_getElem?_getD, e]; rfl, ht.imm le2⟩
    refine wpAny_bind ?_
    rw [show vs = vs.toList.toArray by simp]
    refine kas_kind (T := .ref 135) (by rw [Array.length_toList]; (exact Nat.le_of_not_lt (by assumption))) (fun v hv => ?_) rfl rfl ?_
    · refine hide fun Gq kq => ?_
      obtain ⟨i, hi⟩ := List.getElem?_of_mem hv
      have hil : i < vs.size := by
        rcases Nat.lt_or_ge i vs.size with h' | h'
        · exact h'
        · rw [List.getElem?_eq_none (by simpa using h')] at hi; cases hi
      obtain ⟨b, e, ht⟩ := tri i (by lia)
      have : v = .ref b := by rw [List.getD_eq_getElem?_getD, hi] at e; exact e
      subst this
      obtain ⟨_, _, _, o, ho, hc, _⟩ := ht
      refine kq ?_; clear kq Gq
      rw [← hc]
      simp only [Array.toArray_toList]
      exact (Looks.ld ho).andThen .now
    dsimp only [Array.toArray_toList]
    have est : SortSt.mk' oneType' (vs.zip vs) #[] 7 none = kas_st oneType' (pairsOf vs.toList) (List.toArray (List.range xs.length)) := by
      have e := kas_range (pairsOf vs.toList)
      rw [pairsOf_size, Array.length_toList, hsz] at e
      unfold kas_st
      rw [e]
      unfold pairsOf
      simp
    rw [est]
    refine wpAny_bind (wpAny_mono (kas_runs (E := E) (κ := oneType') (it := pairsOf vs.toList) (n := xs.length) (G := fun p s' => s' = { s with heap := ((s.heap.update a (Obj.mapSeq fun _ => (#[] : Array Value))).push (seqObj "tuple" vs 0)).push (seqObj "list" #[] 0) } ∧ PM xs.length p ∧ UpTo (fun i j => lexB (xs.getD i (0, 0, 0)) (xs.getD j (0, 0, 0))) p xs.length)
      (Q := fun _ st' s' => ∃ p : Array Nat, arrOf st' = p.map (kas_item (pairsOf vs.toList)) ∧ failedOf st' = none ∧ s' = { s with heap := ((s.heap.update a (Obj.mapSeq fun _ => (#[] : Array Value))).push (seqObj "tuple" vs 0)).push (seqObj "list" #[] 0) } ∧ PM xs.length p ∧ UpTo (fun i j => lexB (xs.getD i (0, 0, 0)) (xs.getD j (0, 0, 0))) p xs.length) (by lia) h64 (fun p' st' s' _ a2 a3 a4 => ⟨p', a2, a3, a4⟩) ?_) ?_ fun _ _ e => e)
    · refine KS.wp (fun i j C hi hj hc => ?_) (fun p hp => ⟨rfl, hp⟩) (Zof (Zrj nd) (by lia))
      refine hide fun Gq kq => ?_
      obtain ⟨b1, eb1, ht1⟩ := tri i hi
      obtain ⟨b2, eb2, ht2⟩ := tri j hj
      refine kq ?_; clear kq Gq
      show kas_cmp PW W0 A oneType' (pairsOf vs.toList) i j C _
      rw [← kas_ask_eq]
      show wpAny _ _ (keyLt' oneType' (vs.toList.getD i Value.none) (vs.toList.getD j Value.none)) _ _ _
      rw [eb1, eb2]
      exact Zp5 (s := { s with heap := ((s.heap.update a (Obj.mapSeq fun _ => (#[] : Array Value))).push (seqObj "tuple" vs 0)).push (seqObj "list" #[] 0) }) hu X2 hf hm ht1 ht2 hc
    · rintro ⟨⟨⟩, st'⟩ s' ⟨p, harr, hff, rfl, hpm, hup⟩
      dsimp only
      refine wpAny_bind (seqEpoch_at ho2 rfl ?_)
      have e0 : (arrOf st').map (·.2) = List.toArray (p.toList.map fun i => vs.toList.getD i Value.none) := by
        apply Array.toList_inj.mp
        rw [harr, Array.map_map, Array.toList_map]
        exact List.map_congr_left fun i _ => by show (kas_item (pairsOf vs.toList) i).2 = _; rw [kas_item_eq]
      refine wpAny_bind (listUpdate_at ho2 rfl ?_ (Nat.zero_le _) (by rw [e0]; simp only [List.size_toArray, List.length_map, Array.length_toList, hpm.sz]; rw [sizeLine_eq]; lia))
      rw [hff]
      simp only [bne_self_eq_false, Bool.false_eq_true, if_false]
      rw [e0]
      refine wpAny_pure (fin _ hpm.pm ?_)
      rw [List.pairwise_map, List.pairwise_iff_getElem]
      intro i j hi hj hij
      have hj' : j < xs.length := by rw [Array.length_toList, hpm.sz] at hj; exact hj
      have := hup i j hij hj'
      have g : ∀ k (hk : k < p.toList.length), p.getD k 0 = p.toList[k] := fun k hk => by
        have hk' : k < p.size := by simpa using hk
        simp [Array.getD, hk']
      rw [g i hi, g j hj] at this
      exact this
theorem Znj {o : Expr} {apos pos} {pl : Sem Bool} {Q : AV → Hp → Prop} (G : Gnd K B0) (hf : findIn K (.ref 135) "__lt__" = some (some (.builtin "tuple.__lt__"))) (hm : mroIn K 135 (.type "tuple") = some true) (hu : A.units + 4 < cLine)
    (h : EV (model PW W0) B0 E A env o m hp fun l hp₁ => ∃ a xs, l = .ref a ∧ hp₁ a = some (.list (xs.map triV)) ∧ a ≠ env.locals ∧ xs.Nodup ∧ xs.length < 64 ∧ ∀ ys : List Tri, ys.Perm xs → ys.Pairwise (fun a b => lexB a b = true) → Q .none (hp₁.set a (.list (ys.map triV))))
    (hc : eval (.Call (.Attribute o (PySem.Str.ofString "sort") apos) [] [] pos) env = (do
      let ov ← eval o env
      standAt apos.atName
      let (f, first) ← holding [ov] (getMethod ov (PySem.Str.ofString "sort") pl)
      callWith pos f first (backTo pos (starEach [] env)) []) := by rfl) :
    EV (model PW W0) B0 E A env (.Call (.Attribute o (PySem.Str.ofString "sort") apos) [] [] pos) m hp Q := fun s r => by
  refine MethodCall_ (pl := pl) (h.use r fun u s₁ l hp₁ r₁ le₁ hu' x => ?_) hc
  refine hide fun Gq kq => ?_
  obtain ⟨a, xs, rfl, ha, hL, nd, h64, q⟩ := x
  refine kq ?_; clear kq Gq
  simp only [VR] at hu'; subst hu'
  refine Zd2 slot_list_sort F.type_list_sort r₁ ha hL ?_
  refine hide fun Gq kq => ?_
  obtain ⟨us, n, hl, _⟩ := r₁.at ha hL
  refine kq ?_; clear kq Gq
  refine callWith_method0 (wpAny_call_entry slot_list_sort ⟨_, hl, rfl⟩ entry_list_sort (Zjr G hf hm ?_ r₁ ha hL nd h64 fun ys s' hp hpw r' le' => ⟨_, rfl, .none, _, r', le₁.trans le', VR_none, q ys hp hpw⟩) (args_list_sort _))
  show A.units + 1 < cLine
  (exact ul (by assumption) (by decide))
end
theorem mp_mro : mroOf (.type "map") = pure [.type "map", .type "object"] := by rw [mroOf_type]; kernel_rfl
theorem Zp2 : typeLookup (.type "map") "__new__" = pure (some (.builtin "map.__new__")) := by rw [typeLookup_type, builtinLookup_eq_fast]; kernel_rfl
theorem mp_init : Slot "map" "__init__" "object.__init__" :=
  .of (owner := "object") (n := "__init__") (by rw [typeLookup_type, builtinLookup_eq_fast]; kernel_rfl) (by decide +kernel) (by decide +kernel) (by decide +kernel)
    (by first | exact .inl (by decide +kernel) | exact .inr (by decide +kernel)) (by rw [isSubtype_type]; kernel_rfl)
theorem mp_sub : isSubtype (.type "map") (.type "map") = pure true := by rw [isSubtype_type]; kernel_rfl
theorem Zj9 : TypeCalled "map" "map.__new__" "object.__init__" :=
  ⟨by decide +kernel, by decide +kernel, ⟨_, _, mp_mro⟩, madeBy_type mp_mro Zp2 (by decide +kernel), by decide +kernel, mp_sub, mp_init⟩
theorem Zrg (a b : Value) : checkTypeCall "map" ⟨[a, b], []⟩ = pure () := by kernel_rfl
theorem Zri (a b : Value) : checkBuiltinCall "map.__new__" ⟨[.type "map", a, b], []⟩ = pure () := by kernel_rfl
theorem Zmm : entryFor table "map.__new__" = some Builtin.«map.__new__» := entryFor_of_tree (by kernel_rfl)
theorem Zrh (a b c : Value) : argsOk "object.__init__" ⟨[a, b, c], []⟩ := by unfold argsOk; kernel_rfl
theorem Zj8 : Slot "map" "__iter__" "map.__iter__" :=
  .of (owner := "map") (n := "__iter__") (by rw [typeLookup_type, builtinLookup_eq_fast]; kernel_rfl) (by decide +kernel) (by decide +kernel) (by decide +kernel)
    (by first | exact .inl (by decide +kernel) | exact .inr (by decide +kernel)) (by rw [isSubtype_type]; kernel_rfl)
theorem mp_next : Slot "map" "__next__" "map.__next__" :=
  .of (owner := "map") (n := "__next__") (by rw [typeLookup_type, builtinLookup_eq_fast]; kernel_rfl) (by decide +kernel) (by decide +kernel) (by decide +kernel)
    (by first | exact .inl (by decide +kernel) | exact .inr (by decide +kernel)) (by rw [isSubtype_type]; kernel_rfl)
theorem Zfi : entryFor table "map.__iter__" = some Builtin.«dict_keyiterator.__iter__» :=
  entryFor_alias (id' := "dict_keyiterator.__iter__") (by kernel_rfl) (by first | rfl | decide +kernel | (unfold String.splitOn; simp +decide [String.splitOnAux])) (by decide +kernel) (by kernel_rfl)
theorem Zdb : entryFor table "map.__next__" = some Builtin.«map.__next__» := entryFor_of_tree (by kernel_rfl)
theorem Zf7 (a : Value) : argsOk "map.__iter__" ⟨[a], []⟩ := by unfold argsOk; kernel_rfl
theorem Zdw (a : Value) : argsOk "map.__next__" ⟨[a], []⟩ := by unfold argsOk; kernel_rfl
theorem Zml : typeLookup (.type "map") "__len__" = pure none := by rw [typeLookup_type, builtinLookup_eq_fast]; kernel_rfl
theorem Zj7 : typeLookup (.type "map") "__length_hint__" = pure none := by rw [typeLookup_type, builtinLookup_eq_fast]; kernel_rfl
noncomputable def Zbw (t : Addr) (f : Value) : Obj := { cls := .type "map", data := .fields #[.ref t, f] }
theorem mapOb_notImm {t : Addr} {f : Value} : ¬ Imm (Zbw t f) := by rintro ⟨_, _, _, e⟩; cases e
noncomputable def liOb (l : Addr) (i : Nat) : Obj := { cls := .type "list_iterator", data := .fields #[.ref l, .int i 0] }
theorem liOb_notImm {l : Addr} {i : Nat} : ¬ Imm (liOb l i) := by rintro ⟨_, _, _, e⟩; cases e
theorem Zfj (f : Value) (l : Addr) (items : Array Value) (n : Nat) (dct : Option Addr) (sl : Array (Option Value)) :
    Meets (Builtin.«map.__new__» ⟨[.type "map", f, .ref l], []⟩) (fun _ R s => s.heap.get? l = some { cls := .type "list", dict := dct, data := .seq items n, slots := sl } ∧
      R (.ok (.ret (.ref (s.heap.objs.size + 2)))) { s with heap := ((s.heap.push (liOb l 0)).push { cls := .type "tuple", data := .seq #[.ref s.heap.objs.size] }).push (Zbw (s.heap.objs.size + 1) f) }) :=
  .of_wp fun PW W0 A R s h => by
    obtain ⟨hp, g, d, tk, os⟩ := s; obtain ⟨hl, h⟩ := h
    have hsub := mp_sub
    have hL : Heap.IsList (Shared.heap ⟨hp, g, d, tk, os⟩) l items := ⟨_, hl, rfl, n, rfl⟩
    have e1 : (hp.push (liOb l 0)).objs.size = hp.objs.size + 1 := Heap.size_push ..
    have e2 : ((hp.push (liOb l 0)).push { cls := .type "tuple", data := .seq #[.ref hp.objs.size] }).objs.size = hp.objs.size + 2 := by rw [Heap.size_push, e1]
    wp_walk using wpAny_pyIter_list hL
    refine ⟨_, rfl, ?_⟩
    have h' : R (.ok (.ret (.ref (hp.objs.size + 2)))) ⟨((hp.push (liOb l 0)).push { cls := .type "tuple", data := .seq #[.ref hp.objs.size] }).push (Zbw (hp.objs.size + 1) f), g, d, tk, os⟩ := h
    rw [← e2, ← e1] at h'
    exact h'
section
variable {A : Around} {E : Value → Shared → Prop} {s : Shared}
theorem Zm2 {f : Value} {l : Addr} {items : Array Value} {Q : Value → Shared → Prop} (hL : s.heap.IsList l items)
    (h : Q (.ref (s.heap.objs.size + 2)) { s with heap := ((s.heap.push (liOb l 0)).push { cls := .type "tuple", data := .seq #[.ref s.heap.objs.size] }).push (Zbw (s.heap.objs.size + 1) f) }) :
    wpAny (model PW W0) A (call (.type "map") [f, .ref l]) Q E s := by
  refine hide fun Gq kq => ?_
  obtain ⟨⟨c, dct, dt, sl⟩, hl, hc, n, hd⟩ := hL
  replace hc : c = .type "list" := hc
  replace hd : dt = .seq items n := hd
  subst hc hd
  refine kq ?_; clear kq Gq
  refine callType_new Zj9 (by decide) (Zrg _ _) (Zri _ _) (fun obj => Zrh obj _ _) Zmm (Zfj f l items n dct sl) ⟨hl, ?_⟩
  have hz : ((s.heap.push (liOb l 0)).push { cls := .type "tuple", data := .seq #[.ref s.heap.objs.size] }).objs.size = s.heap.objs.size + 2 := by rw [Heap.size_push, Heap.size_push]
  refine ⟨⟨Zbw (s.heap.objs.size + 1) f, ?_, rfl⟩, h⟩
  show (((s.heap.push (liOb l 0)).push { cls := .type "tuple", data := .seq #[.ref s.heap.objs.size] }).push (Zbw (s.heap.objs.size + 1) f)).get? (s.heap.objs.size + 2) = _
  rw [← hz]
  exact Heap.get?_push_size _ rfl
theorem Zos {it l : Addr} {i : Nat} {items : Array Value} {x : Value} {Q : Value → Shared → Prop} (hit : s.heap.IsListIter it l i) (hl : s.heap.IsList l items) (hx : items[i]? = some x)
    (hQ : ∀ h', h'.IsListIter it l (i + 1) → Heap.SameBut it s.heap h' → Q x { s with heap := h' }) : wpAny (model PW W0) A (Builtin.SmallTypes.nextOf (.ref it)) Q E s := by
  refine hide fun Gq kq => ?_
  obtain ⟨o, ho, hc, hd⟩ := id hit
  obtain ⟨ol, hol, _, nl, hdl⟩ := hl
  refine kq ?_; clear kq Gq
  unfold Builtin.SmallTypes.nextOf
  refine wpAny_bind (wpAny_callSpecial?_slot (name := PySem.Str.ofString "__next__") hit.typeIs slot_listiter_next (wpAny_call_entry slot_listiter_next hit.typeIs entry_listiter_next ?_ (args_listiter_next _)))
  show wpAny _ _ (field (.ref it) 0 >>= _) _ _ s
  refine wpAny_bind (wpAny_field ho hd (x := .ref l) rfl ?_)
  show wpAny _ _ (if (Value.ref l == Value.none) = true then _ else _) _ _ s
  rw [if_neg (show ¬ ((Value.ref l == Value.none) = true) from Bool.false_ne_true)]
  show wpAny _ _ (field (.ref it) 1 >>= _) _ _ s
  refine wpAny_bind (wpAny_field ho hd (x := .int i 0) rfl ?_)
  show wpAny _ _ (seqItems? (.ref l) >>= _) _ _ s
  refine wpAny_bind (wpAny_seqItems hol hdl ?_)
  simp only [Int.toNat_natCast, hx]
  refine wpAny_bind (wpAny_setField ho hd (by simp) (wpAny_pure ⟨x, rfl, wpAny_pure (hQ _ ?_ (Heap.SameBut.update ..))⟩))
  exact ⟨_, Heap.get?_update_self _ ho (Obj.isFreed_of_fields (Obj.data_mapFields hd _)), (Obj.cls_mapFields ..).trans hc, by rw [Obj.data_mapFields hd]; simp [rawInt]⟩
noncomputable def Zr8 (e : Value) (s : Shared) : Prop := ∃ x o, e = .ref x ∧ s.heap.get? x = some o ∧ o.cls = .type "StopIteration"
theorem Zp8 {it l : Addr} {i : Nat} {items : Array Value} {Q : Value → Shared → Prop} (hh : A.handled = none) (hit : s.heap.IsListIter it l i) (hl : s.heap.IsList l items) (hx : items[i]? = none)
    (hQ : ∀ e h', Heap.ExtBut it s.heap h' → Zr8 e { s with heap := h' } → E e { s with heap := h' }) : wpAny (model PW W0) A (Builtin.SmallTypes.nextOf (.ref it)) Q E s := by
  refine hide fun Gq kq => ?_
  obtain ⟨o, ho, hc, hd⟩ := id hit
  obtain ⟨ol, hol, _, nl, hdl⟩ := hl
  refine kq ?_; clear kq Gq
  unfold Builtin.SmallTypes.nextOf
  refine wpAny_bind (wpAny_callSpecial?_slot (name := PySem.Str.ofString "__next__") hit.typeIs slot_listiter_next (wpAny_call_entry slot_listiter_next hit.typeIs entry_listiter_next ?_ (args_listiter_next _)))
  show wpAny _ _ (field (.ref it) 0 >>= _) _ _ s
  refine wpAny_bind (wpAny_field ho hd (x := .ref l) rfl ?_)
  show wpAny _ _ (if (Value.ref l == Value.none) = true then _ else _) _ _ s
  rw [if_neg (show ¬ ((Value.ref l == Value.none) = true) from Bool.false_ne_true)]
  show wpAny _ _ (field (.ref it) 1 >>= _) _ _ s
  refine wpAny_bind (wpAny_field ho hd (x := .int i 0) rfl ?_)
  show wpAny _ _ (seqItems? (.ref l) >>= _) _ _ s
  refine wpAny_bind (wpAny_seqItems hol hdl ?_)
  simp only [Int.toNat_natCast, hx]
  refine wpAny_bind (wpAny_rule (wpAny_bind (wpAny_setField ho hd (by simp) ?_)))
  show wpAny _ _ (newExc (.type "StopIteration") [] >>= _) _ _ _
  refine wpAny_bind ?_
  simp only [newExc, newTuple]
  refine wpAny_bind (wpAny_newObj_type ?_ (by size_fits))
  refine wpAny_bind (m := firstArgMember _ _) (wpAny_of_eq (a := Value.none) (by first | rfl | (simp only [firstArgMember]; rfl)) ?_)
  refine wpAny_newObj_type ?_ (by size_fits)
  simp only [raiseNew]
  refine wpAny_bind (wpAny_handled ?_)
  rw [show A.in1.handled = none from hh]
  refine wpAny_bind (wpAny_pure (wpAny_throw ?_))
  exact hQ _ _ (((Heap.SameBut.update ..).extBut.push _).push _) ⟨_, _, rfl, Heap.get?_push_size _ rfl, rfl⟩
theorem Zmr {mo t it l : Addr} {f x : Value} {i : Nat} {items : Array Value} {Q : Option Value → Shared → Prop} (hm : s.heap.get? mo = some (Zbw t f)) (ht : IsTup s.heap t #[.ref it]) (hit : s.heap.IsListIter it l i) (hl : s.heap.IsList l items) (hx : items[i]? = some x) (hmi : mo ≠ it)
    (hQ : ∀ h', h'.IsListIter it l (i + 1) → Heap.SameBut it s.heap h' → wpAny (model PW W0) A.in1 (call f [x]) (fun v s' => Q (some v) s') (fun _ _ => False) { s with heap := h' }) : wpAny (model PW W0) A (pyNext (.ref mo)) Q E s := by
  refine hide fun Gq kq => ?_
  have hmt : s.TypeIs (.ref mo) "map" := ⟨_, hm, rfl⟩
  obtain ⟨ot, hot, _, nt, hdt⟩ := ht
  refine kq ?_; clear kq Gq
  unfold pyNext
  refine wpAny_bind (wpAny_attempt (wpAny_callSpecial?_slot (name := PySem.Str.ofString "__next__") hmt mp_next (wpAny_call_entry mp_next hmt Zdb ?_ (Zdw _))))
  show wpAny _ _ (field (.ref mo) 0 >>= _) _ _ s
  refine wpAny_bind (wpAny_field hm rfl (x := .ref t) rfl ?_)
  show wpAny _ _ (seqItems? (.ref t) >>= _) _ _ s
  refine wpAny_bind (wpAny_seqItems hot hdt ?_)
  dsimp only
  rw [← Array.forIn_toList]
  simp only [List.forIn_cons, List.forIn_nil]
  refine wpAny_bind (wpAny_bind (wpAny_bind (wpAny_holding (Zos hit hl hx fun h' hit' hs' => ?_))))
  refine wpAny_pure ?_
  dsimp only
  refine wpAny_pure ?_
  refine wpAny_bind (wpAny_field (s := { s with heap := h' }) ((hs'.2 mo hmi).trans hm) rfl (x := f) rfl (wpAny_bind (wpAny_holding (wpAny_mono (hQ h' hit' hs') (fun v s' q => ?_) fun _ _ z => False.elim z))))
  exact wpAny_bind (wpAny_letGo (wpAny_pure ⟨v, rfl, wpAny_pure q⟩))
theorem Zor {mo t it l : Addr} {f : Value} {i : Nat} {items : Array Value} {Q : Option Value → Shared → Prop} (hh : A.handled = none) (hm : s.heap.get? mo = some (Zbw t f)) (ht : IsTup s.heap t #[.ref it]) (hit : s.heap.IsListIter it l i) (hl : s.heap.IsList l items) (hx : items[i]? = none)
    (hQ : ∀ h', Heap.ExtBut it s.heap h' → Q none { s with heap := h' }) : wpAny (model PW W0) A (pyNext (.ref mo)) Q E s := by
  have hmt : s.TypeIs (.ref mo) "map" := ⟨_, hm, rfl⟩
  obtain ⟨ot, hot, _, nt, hdt⟩ := ht
  unfold pyNext
  refine wpAny_bind (wpAny_attempt (wpAny_callSpecial?_slot (name := PySem.Str.ofString "__next__") hmt mp_next (wpAny_call_entry mp_next hmt Zdb ?_ (Zdw _))))
  show wpAny _ _ (field (.ref mo) 0 >>= _) _ _ s
  refine wpAny_bind (wpAny_field hm rfl (x := .ref t) rfl ?_)
  show wpAny _ _ (seqItems? (.ref t) >>= _) _ _ s
  refine wpAny_bind (wpAny_seqItems hot hdt ?_)
  dsimp only
  rw [← Array.forIn_toList]
  simp only [List.forIn_cons, List.forIn_nil]
  refine wpAny_bind (wpAny_bind (wpAny_bind (wpAny_holding (Zp8 hh hit hl hx fun e h' he hx' => ?_))))
  obtain ⟨x, o, rfl, ho, hc⟩ := hx'
  refine wpAny_bind (wpAny_isInstance (T := "StopIteration") (b := true) ⟨_, ho, hc⟩ isSubtype_stop ?_)
  exact wpAny_pure (hQ h' he)
end
section
variable {A : Around} {E : Value → Shared → Prop} {env : Env} {m : Loc} {hp : Hp} {K : Frag}
theorem Zmv {mo t S : Addr} {f : Value} {s : Shared} {R : Result → Shared → Prop} (hS : s.heap.get? S = some { cls := .type "list", data := .seq #[] }) (hm : s.heap.get? mo = some (Zbw t f)) (hSm : S ≠ mo)
    (hloop : ∀ h' c', Heap.SameBut S s.heap h' → h'.get? S = some { cls := .type "list", dict := none, data := .seq #[] c', slots := #[] } → codeAny (model PW W0) A (.builtin "list.extend.loop" ⟨[.ref S, .ref mo, .none], []⟩) R { s with heap := h' }) :
    wpAny (model PW W0) A.in1 (Builtin.«list.__init__» ⟨[.ref S, .ref mo], []⟩)
      (fun fin s' => match fin with | .done f => R (.ok f) s' | .again c' => c'.quiet = true ∧ codeAny (model PW W0) A c' R s') (fun e s' => R (.error e) s') s := by
  show wpAny _ A.in1 (do let old ← Builtin.List.listItems (.ref S); Builtin.List.listUpdate (.ref S) (fun _ => #[]); letGo old.toList.reverse; Builtin.List.listExtendWith (.ref S) (.ref mo) .none) _ _ s
  refine wpAny_bind ?_
  unfold Builtin.List.listItems
  refine wpAny_bind (wpAny_seqItems hS rfl (wpAny_pure ?_))
  show wpAny _ A.in1 (updateSeq S (fun _ => #[]) >>= fun _ => letGo (#[] : Array Value).toList.reverse >>= fun _ => Builtin.List.listExtendWith (.ref S) (.ref mo) .none) _ _ s
  refine wpAny_bind (wpAny_updateSeq hS rfl ?_)
  have hS₁ := Heap.get?_update_self (Obj.mapSeq (fun _ => (#[] : Array Value))) hS rfl
  have hs₁ : Heap.SameBut S s.heap (s.heap.update S (Obj.mapSeq (fun _ => (#[] : Array Value)))) := Heap.SameBut.update ..
  refine wpAny_bind (wpAny_letGo ?_)
  have hm₁ := (hs₁.2 mo (Ne.symm hSm)).trans hm
  have hT₁ : ({ s with heap := s.heap.update S (Obj.mapSeq (fun _ => (#[] : Array Value))) } : Shared).TypeIs (.ref mo) "map" := ⟨_, hm₁, rfl⟩
  unfold Builtin.List.listExtendWith
  refine wpAny_bind (wpAny_typeOf hT₁ ?_)
  have h1 : Builtin.List.listSameRef (.ref S) (.ref mo) = false := by simp [Builtin.List.listSameRef, hSm]
  have h2 : (Value.type "map" == Value.type "list") = false := by decide
  have h3 : (Value.type "map" == Value.type "tuple") = false := by decide
  simp only [h1, h2, h3, Bool.or_false, Bool.false_eq_true, if_false]
  refine wpAny_bind (wpAny_pyIter_slot hT₁ Zj8 (wpAny_call_entry Zj8 hT₁ Zfi ?_ (Zf7 _)))
  show wpAny _ _ (ret (.ref mo)) _ _ _
  refine wpAny_pure ⟨_, rfl, "map", _, hT₁, mp_next.lookup, ?_⟩
  refine wpAny_bind (wpAny_holding ?_)
  unfold Builtin.List.listLengthHint
  refine wpAny_bind (wpAny_specialOf hT₁ Zml ?_)
  show wpAny _ A.in1 (specialOf (Value.ref mo) (PySem.Str.ofString "__length_hint__") >>= _) _ _ _
  refine wpAny_bind (wpAny_specialOf hT₁ Zj7 ?_)
  refine wpAny_pure ?_
  show wpAny _ A.in1 (rule "list.extend.makes-room" >>= fun _ => Builtin.List.listTouch (.ref S) >>= fun _ => again (.builtin "list.extend.loop" ⟨[.ref S, .ref mo, .none], []⟩)) _ _ _
  refine wpAny_bind (wpAny_rule (wpAny_bind ?_))
  show wpAny _ A.in1 (updateSeq S (·.push .none) >>= fun _ => updateSeq S (·.pop)) _ _ _
  refine wpAny_bind (wpAny_updateSeq hS₁ rfl ?_)
  have hS₂ := Heap.get?_update_self (Obj.mapSeq (·.push Value.none)) hS₁ rfl
  refine wpAny_updateSeq (hz := by seq_fits) hS₂ rfl ?_
  have hS₃ := Heap.get?_update_self (Obj.mapSeq (·.pop)) hS₂ rfl
  refine wpAny_pure ⟨plainId_quiet PySem.F.plain_extend_loop _, hloop _ _ ?_ hS₃⟩
  exact (hs₁.trans (Heap.SameBut.update ..)).trans (Heap.SameBut.update ..)
theorem Zkw {mo t it l S fA : Addr} {xs : List AV} {I : Nat → List AV → Hp → Prop} {res : Value} {R : Result → Shared → Prop} {h0 : Heap} (hh : A.handled = none) (hSL : S ≠ env.locals) (hmL : mo ≠ env.locals) (hiL : it ≠ env.locals) (hSm : S ≠ mo) (hSi : S ≠ it) (hmi : mo ≠ it) (hn : xs.length ≤ 5000)
    (hset : ∀ i acc hp z o, z = S ∨ z = it → I i acc hp → I i acc (hp.set z o)) (hlst : ∀ i acc hp, I i acc hp → Lst B0 hp env.locals l xs)
    (hkm : ∀ i acc hp, I i acc hp → hp mo = some (.obj (Zbw t (.ref fA))))
    (turn : ∀ i x acc hp, xs[i]? = some x → I i acc hp → CL (model PW W0) B0 (fun _ _ => False) A.in1.in1 env (.ref fA) m [x] hp fun v hp' => (∀ z, z = S ∨ z = it → hp' z = hp z) ∧ I (i + 1) (acc ++ [v]) hp')
    (hR : ∀ s' acc hp', Rel B0 ((hp'.del it).set env.locals (.ns m)) s' → ImmLe h0 s'.heap → I xs.length acc hp' → hp' S = some (.list acc) → R (.ok (.ret res)) s') :
    ∀ (k i : Nat) (s : Shared) (hp : Hp) (acc : List AV) (ob : Obj), xs.length - i = k → i ≤ xs.length → acc.length = i → Rel B0 (hp.set env.locals (.ns m)) s → ImmLe h0 s.heap → IsTup s.heap t #[.ref it] → I i acc hp → hp S = some (.list acc) → hp it = some (.obj ob) → ob.cls = .type "list_iterator" → ob.data = .fields #[.ref l, .int i 0] →
      codeAny (model PW W0) A (.builtin "list.extend.loop" ⟨[.ref S, .ref mo, res], []⟩) R s := by
  intro k
  induction k with
  | zero =>
    intro i s hp acc ob hk hi hal r le ht hI hS hit hoc hod
    have hin : i = xs.length := by lia
    subst hin
    refine codeAny_builtin PySem.F.entry_extend_loop ?_
    rw [Around.under_plainId PySem.F.plain_extend_loop _]
    show wpAny _ A.in1 (pyNext (.ref mo) >>= _) _ _ s
    refine hide fun Gq kq => ?_
    obtain ⟨vs, hl, hvs⟩ := r.lst (hlst _ _ _ hI)
    refine kq ?_; clear kq Gq
    have hm := (r.at (hkm _ _ _ hI) hmL).1
    have hi' := (r.at hit hiL).1
    refine wpAny_bind (Zor (A := A.in1) hh hm ht ⟨_, hi', hoc, hod⟩ hl (Array.getElem?_eq_none (by rw [← Array.length_toList, hvs.length]; exact Nat.le_refl _)) fun h' he => ?_)
    refine hide fun Gq kq => ?_
    obtain ⟨r', le'⟩ := r.drop (it := it) hit hiL he s.toks
    refine kq ?_; clear kq Gq
    exact wpAny_pure (hR _ acc hp r' (le.trans le') hI hS)
  | succ k ih =>
    intro i s hp acc ob hk hi hal r le ht hI hS hit hoc hod
    have hlt : i < xs.length := by lia
    refine codeAny_builtin PySem.F.entry_extend_loop ?_
    rw [Around.under_plainId PySem.F.plain_extend_loop _]
    show wpAny _ A.in1 (pyNext (.ref mo) >>= _) _ _ s
    refine hide fun Gq kq => ?_
    obtain ⟨vs, hl, hvs⟩ := r.lst (hlst _ _ _ hI)
    have hm := (r.at (hkm _ _ _ hI) hmL).1
    have hi' := (r.at hit hiL).1
    obtain ⟨v, hv, hxv⟩ := hvs.get (i := i) (x := xs.getD i .none) (Zcy hlt)
    refine kq ?_; clear kq Gq
    refine wpAny_bind (Zmr (A := A.in1) hm ht ⟨_, hi', hoc, hod⟩ hl (by simpa using hv) hmi fun h' hit' hs' => ?_)
    refine hide fun Gq kq => ?_
    obtain ⟨ob', hg', hc', hd'⟩ := hit'
    obtain ⟨r1, le1⟩ := r.turn (a := it) (o := .obj ob) (Hp.snt hiL hit) hs' (.obj ob') (fun _ => ⟨hg', fun h => by obtain ⟨_, _, _, e⟩ := h; rw [hd'] at e; cases e⟩) s.toks
    refine kq ?_; clear kq Gq
    rw [Hp.sc _ _ _ (Ne.symm hiL)] at r1
    refine Zn4 (turn i _ acc _ (Zcy hlt) (hset i acc hp it _ (.inr rfl) hI) _ [v] r1 (VRs.one (hxv.mono le1))) fun u s2 av hp2 r2 le2 hu yq => ?_
    refine hide fun Gq kq => ?_
    obtain ⟨hk2, hI2⟩ := yq
    have hS2 : hp2 S = some (.list acc) := by rw [hk2 S (.inl rfl), Hp.sn _ _ hSi]; exact hS
    have hit2 : hp2 it = some (.obj ob') := by rw [hk2 it (.inr rfl), Hp.ss]
    obtain ⟨us, nn, hl2, hus⟩ := r2.at hS2 hSL
    have hsz : us.size = acc.length := by rw [← Array.length_toList]; exact hus.length
    obtain ⟨r3, le3⟩ := r2.turn (a := S) (o := .list acc) (Hp.snt hSL hS2) (h' := s2.heap.update S (Obj.mapSeq (·.push u))) (Heap.SameBut.update ..) (.list (acc ++ [av]))
      (fun le => ⟨_, _, IsL.update hl2 (·.push u), by rw [Array.toList_push]; exact (hus.mono le).append (VRs.one (hu.mono le))⟩) s2.toks
    refine kq ?_; clear kq Gq
    rw [Hp.sc _ _ _ (Ne.symm hSL)] at r3
    show wpAny _ A.in1 (updateSeq S (·.push u) >>= _) _ _ _
    refine wpAny_bind (wpAny_updateSeq hl2 rfl (wpAny_pure ⟨plainId_quiet PySem.F.plain_extend_loop _, ?_⟩) (by rw [hsz]; have := sizeLine_eq; lia) (by show (us.push u).size ≤ sizeLine + 1; rw [Array.size_push, hsz]; have := sizeLine_eq; lia))
    exact ih (i + 1) _ _ (acc ++ [av]) ob' (by lia) hlt (by simp [hal]) r3 (((le.trans le1).trans le2).trans le3) (IsTup.imm ((le1.trans le2).trans le3) ht) (hset _ _ _ S _ (.inl rfl) hI2) (Hp.ss ..) (Hp.snt (Ne.symm hSi) hit2) hc' hd'
noncomputable abbrev LMI (PW : Program) (W0 : World) (A : Around) (B0 : Shared) (env : Env) (m : Loc) (Q : AV → Hp → Prop) (hp₂ : Hp) (fA l : Addr) (xs : List AV) (S mo it t : Addr) : Prop :=
  ∃ I : Nat → List AV → Hp → Prop,
        I 0 [] (((hp₂.set it (.obj (liOb l 0))).set mo (.obj (Zbw t (.ref fA)))).set S (.list [])) ∧ (∀ i acc hp z o, z = S ∨ z = it → I i acc hp → I i acc (hp.set z o)) ∧ (∀ i acc hp, I i acc hp → Lst B0 hp env.locals l xs) ∧
        (∀ i acc hp, I i acc hp → hp mo = some (.obj (Zbw t (.ref fA)))) ∧
        (∀ A', A'.handled = none → A'.depth = A.depth → A'.units ≤ A.units + 8 → ∀ i x acc hp, xs[i]? = some x → I i acc hp → CL (model PW W0) B0 (fun _ _ => False) A' env (.ref fA) m [x] hp fun v hp' => (∀ z, z = S ∨ z = it → hp' z = hp z) ∧ I (i + 1) (acc ++ [v]) hp') ∧
        (∀ acc hp', I xs.length acc hp' → hp' S = some (.list acc) → Q (.ref S) (hp'.del it))
noncomputable abbrev LM3 (PW : Program) (W0 : World) (A : Around) (B0 : Shared) (env : Env) (m : Loc) (Q : AV → Hp → Prop) (vs : List AV) (hp₂ : Hp) : Prop :=
  ∃ fA l xs, vs = [.ref fA, .ref l] ∧ Lst B0 hp₂ env.locals l xs ∧ xs.length ≤ 5000 ∧ ∀ S mo it t, S ≠ env.locals → S ≠ mo → S ≠ it → mo ≠ it → hp₂ S = none → hp₂ mo = none → hp₂ it = none → LMI PW W0 A B0 env m Q hp₂ fA l xs S mo it t
noncomputable abbrev LM2 (PW : Program) (W0 : World) (A : Around) (E : Value → Shared → Prop) (B0 : Shared) (env : Env) (m : Loc) (fe xe : Expr) (Q : AV → Hp → Prop) (gv : AV) (hp₁ : Hp) : Prop := gv = .ty "map" ∧ EVS (model PW W0) B0 E A env [fe, xe] m hp₁ (LM3 PW W0 A B0 env m Q)
noncomputable abbrev LM1 (PW : Program) (W0 : World) (A : Around) (E : Value → Shared → Prop) (B0 : Shared) (env : Env) (m : Loc) (mfunc fe xe : Expr) (Q : AV → Hp → Prop) (fv : AV) (hp₀ : Hp) : Prop := fv = .ty "list" ∧ EV (model PW W0) B0 E A env mfunc m hp₀ (LM2 PW W0 A E B0 env m fe xe Q)
theorem Zjj {func mfunc fe xe : Expr} {mpos pos} {Q : AV → Hp → Prop} (hh : A.handled = none)
    (h : EV (model PW W0) B0 E A env func m hp (LM1 PW W0 A E B0 env m mfunc fe xe Q))
    (hc0 : eval (.Call func [.Call mfunc [fe, xe] [] mpos] [] pos) env = (do callWith pos (← eval func env) [] (backTo pos (starEach [.Call mfunc [fe, xe] [] mpos] env)) (backToKw pos (keywordEach [] env))) := by rfl)
    (he0 : starEach [.Call mfunc [fe, xe] [] mpos] env = [(false, eval (.Call mfunc [fe, xe] [] mpos) env)] := by rfl)
    (hc1 : eval (.Call mfunc [fe, xe] [] mpos) env = (do callWith mpos (← eval mfunc env) [] (backTo mpos (starEach [fe, xe] env)) (backToKw mpos (keywordEach [] env))) := by rfl)
    (he1 : starEach [fe, xe] env = (false, eval fe env) :: starEach [xe] env := by rfl) (hp1 : (backTo mpos (starEach [xe] env)).any (·.1) = false := by rfl) :
    EV (model PW W0) B0 E A env (.Call func [.Call mfunc [fe, xe] [] mpos] [] pos) m hp Q := fun s r => by
  refine Call_ (h.use r fun u s₀ fv hp₀ r₀ le₀ hu yq => ?_) hc0
  refine hide fun Gq kq => ?_
  obtain ⟨hf0, q⟩ := yq
  subst hf0; simp only [VR] at hu; subst hu
  refine kq ?_; clear kq Gq
  refine PyProof.Rows.callWith_type1 (args_cons ?_ he0) he0 rfl
  refine Call_ (q.use r₀ fun u s₁ gv hp₁ r₁ le₁ hu yq => ?_) hc1
  refine hide fun Gq kq => ?_
  obtain ⟨hf1, q⟩ := yq
  subst hf1; simp only [VR] at hu; subst hu
  refine kq ?_; clear kq Gq
  refine PyProof.Rows.callWith_type1 (Zc3 (q mpos s₁ r₁) fun vs s₂ avs hp₂ r₂ le₂ hv q => ?_) he1 hp1
  refine hide fun Gq kq => ?_
  obtain ⟨fA, l, xs, rfl, hl, hlen, q⟩ := q
  obtain ⟨v1, v2, rfl, h1, h2⟩ := Zc7 hv
  simp only [VR] at h1 h2; subst h1; subst h2
  obtain ⟨us, hlst, hus⟩ := r₂.lst hl
  refine kq ?_; clear kq Gq
  refine Zm2 hlst ?_
  refine hide fun Gq kq => ?_
  have n1 := r₂.newAt (liOb l 0) (.obj (liOb l 0)) ⟨Heap.get?_push_size _ rfl, liOb_notImm⟩
  obtain ⟨rel1, hit, hiL, le3⟩ := n1
  generalize hitA : s₂.heap.objs.size = it at *
  have rel2 := rel1.push { cls := .type "tuple", data := .seq #[.ref it] }
  have ez1 : (s₂.heap.push (liOb l 0)).objs.size = it + 1 := by rw [Heap.size_push, hitA]
  have ez2 : ((s₂.heap.push (liOb l 0)).push { cls := .type "tuple", data := .seq #[.ref it] }).objs.size = it + 2 := by rw [Heap.size_push, ez1]
  have htup : IsTup ((s₂.heap.push (liOb l 0)).push { cls := .type "tuple", data := .seq #[.ref it] }) (it + 1) #[.ref it] := ⟨_, by rw [← ez1]; exact Heap.get?_push_size _ rfl, rfl, 0, rfl⟩
  have n2 := rel2.newAt (Zbw (it + 1) (.ref fA)) (.obj (Zbw (it + 1) (.ref fA))) ⟨Heap.get?_push_size _ rfl, mapOb_notImm⟩
  obtain ⟨rel3, hmo, hmL, le4⟩ := n2
  refine kq ?_; clear kq Gq
  change Rel B0 ((Hp.set _ ((s₂.heap.push (liOb l 0)).push { cls := .type "tuple", data := .seq #[.ref it] }).objs.size _).set _ _) _ at rel3
  change Hp.set _ _ _ ((s₂.heap.push (liOb l 0)).push { cls := .type "tuple", data := .seq #[.ref it] }).objs.size = none at hmo
  change ((s₂.heap.push (liOb l 0)).push { cls := .type "tuple", data := .seq #[.ref it] }).objs.size ≠ _ at hmL
  rw [ez2] at rel3 hmo hmL
  have hmi : it + 2 ≠ it := Nat.ne_of_gt (Nat.lt_add_of_pos_right (Nat.succ_pos 1))
  have le5 : ImmLe s.heap (((s₂.heap.push (liOb l 0)).push { cls := .type "tuple", data := .seq #[.ref it] }).push (Zbw (it + 1) (.ref fA))) := (((le₀.trans le₁).trans le₂).trans (le3.trans (ImmLe.keep fun b o e => Heap.get?_push_of_some _ e))).trans le4
  have hmo2 : hp₂ (it + 2) = none := Hp.snr hmi hmo
  refine args_nil ?_
  refine callType_codes (Q₁ := fun obj s₁' => obj = .ref (((s₂.heap.push (liOb l 0)).push { cls := .type "tuple", data := .seq #[.ref it] }).push (Zbw (it + 1) (.ref fA))).objs.size ∧ s₁' = { s₂ with heap := (((s₂.heap.push (liOb l 0)).push { cls := .type "tuple", data := .seq #[.ref it] }).push (Zbw (it + 1) (.ref fA))).push { cls := .type "list", data := .seq #[] } }) PySem.F.called_list (PySem.F.typeCall_list_1 _) PySem.F.entry_list_init (code_list_new _ ⟨rfl, rfl⟩) fun obj s₁' h₁ => ?_
  refine hide fun Gq kq => ?_
  obtain ⟨rfl, rfl⟩ := h₁
  have ez3 : (((s₂.heap.push (liOb l 0)).push { cls := .type "tuple", data := .seq #[.ref it] }).push (Zbw (it + 1) (.ref fA))).objs.size = it + 3 := by rw [Heap.size_push, ez2]
  have hS : ((((s₂.heap.push (liOb l 0)).push { cls := .type "tuple", data := .seq #[.ref it] }).push (Zbw (it + 1) (.ref fA))).push { cls := .type "list", data := .seq #[] }).get? (((s₂.heap.push (liOb l 0)).push { cls := .type "tuple", data := .seq #[.ref it] }).push (Zbw (it + 1) (.ref fA))).objs.size = some { cls := .type "list", data := .seq #[] } := Heap.get?_push_size _ rfl
  have x := Rel.newAt rel3 { cls := .type "list", data := .seq #[] } (.list []) ⟨#[], 0, hS, by simp [VRs]⟩
  obtain ⟨rel4, hSn, hSL, le6⟩ := x
  refine kq ?_; clear kq Gq
  change Rel B0 ((Hp.set _ (((s₂.heap.push (liOb l 0)).push { cls := .type "tuple", data := .seq #[.ref it] }).push (Zbw (it + 1) (.ref fA))).objs.size _).set _ _) _ at rel4
  change Hp.set _ _ _ (((s₂.heap.push (liOb l 0)).push { cls := .type "tuple", data := .seq #[.ref it] }).push (Zbw (it + 1) (.ref fA))).objs.size = none at hSn
  change (((s₂.heap.push (liOb l 0)).push { cls := .type "tuple", data := .seq #[.ref it] }).push (Zbw (it + 1) (.ref fA))).objs.size ≠ _ at hSL
  change ImmLe (((s₂.heap.push (liOb l 0)).push { cls := .type "tuple", data := .seq #[.ref it] }).push (Zbw (it + 1) (.ref fA))) _ at le6
  rw [ez3] at rel4 hSn hSL hS ⊢
  have hSm : it + 3 ≠ it + 2 := Nat.succ_ne_self (it + 2)
  have hSi : it + 3 ≠ it := Nat.ne_of_gt (Nat.lt_add_of_pos_right (Nat.succ_pos 2))
  have hS2 : hp₂ (it + 3) = none := by rw [Hp.sn _ _ hSm, Hp.sn _ _ hSi] at hSn; exact hSn
  have hmo4 := (rel4.objs (it + 2) (.obj (Zbw (it + 1) (.ref fA))) (Hp.snt hmL (Hp.snt (Ne.symm hSm) (Hp.ss ..)))).2.1
  refine ⟨⟨_, hS, rfl⟩, PySem.F.args_list_init_2 _ _, Zmv (A := A.in1) (t := it + 1) (f := .ref fA) hS hmo4 hSm fun h' c' hs' hS' => ?_⟩
  refine hide fun Gq kq => ?_
  obtain ⟨rel5, le7⟩ := Rel.turn rel4 (a := it + 3) (o := .list []) (Hp.snt hSL (Hp.ss ..)) hs' (.list []) (fun _ => ⟨#[], c', hS', by simp [VRs]⟩) s₂.toks
  rw [Hp.sc _ _ _ (Ne.symm hSL), Hp.set_set] at rel5
  have leF : ImmLe s.heap h' := (le5.trans le6).trans le7
  obtain ⟨I, i0, i1, i2, i3, i4, i5⟩ := q (it + 3) (it + 2) it (it + 1) hSL hSm hSi hmi hS2 hmo2 hit
  refine kq ?_; clear kq Gq
  refine Zkw (A := A.in1) (t := it + 1) (h0 := s.heap) (I := I) hh hSL hmL hiL hSm hSi hmi hlen i1 i2 i3 (i4 A.in1.in1.in1 hh rfl (by show A.units + 1 + 1 + 1 ≤ _; lia)) (fun s' acc hp' r' le' hI hS3 => ⟨rfl, .ref (it + 3), _, r', le', VR_ref, i5 acc hp' hI hS3⟩) _ 0 _ _ [] (liOb l 0) rfl (Nat.zero_le _) rfl rel5 leF (IsTup.imm ((le4.trans le6).trans le7) htup) i0 (Hp.ss ..) (Hp.snt (Ne.symm hSi) (Hp.snt (Ne.symm hmi) (Hp.ss ..))) rfl rfl
end
theorem methodObj_notImm {f self : Value} : ¬ Imm (methodObj f self) := by rintro ⟨_, _, _, e⟩; cases e
theorem Zn8 : builtinKind "tuple.__len__" = some .slot := by decide +kernel
theorem Zl5 : splitId "tuple.__len__" = some ("tuple", "__len__") := by decide +kernel
section
variable {A : Around} {E : Value → Shared → Prop} {env : Env} {m : Loc} {hp : Hp} {K : Frag}
theorem Zpa {o : Expr} {name : PySem.Str} {pos} {C p : Addr} {mc f : Value} {rest : List Value} {Q : AV → Hp → Prop} (G : Gnd K B0) (hr : readsIn K C mc = true) (hfc : findCls K (.ref C) mc name = some (.get (.builtin "classmethod.__get__") (.ref p) .none (.ref C))) (hrec : recIn K p "classmethod" = some (f :: rest))
    (h : EV (model PW W0) B0 E A env o m hp fun v hp₁ => v = .ref C ∧ ∀ x, hp₁ x = none → x ≠ env.locals → Q (.ref x) (hp₁.set x (.obj (methodObj f (.ref C)))))
    (he : eval (.Attribute o name pos) env = (do
      let ov ← eval o env
      standAt pos.atName
      let r ← holding [ov] (getAttr ov name true)
      letTemporaryGo o ov r
      pure r) := by with_unfolding_all rfl) :
    EV (model PW W0) B0 E A env (.Attribute o name pos) m hp Q := fun s r => by
  rw [he]
  refine wpAny_bind (h.use r fun v s₁ av hp₁ r₁ le₁ hv x => wpAny_bind (wpAny_standAt (wpAny_bind (wpAny_holding ?_))))
  obtain ⟨rfl, q⟩ := x
  simp only [VR] at hv; subst hv
  refine cls_bind (G.X.keeps r₁.keep) hr hfc (wpAny_call (cm_get (s := { s₁ with toks := s₁.toks + 1 }) (G.X.keeps r₁.keep) hrec (handed_on rfl ?_)))
  have n := (r₁.toks (s₁.toks + 1)).newAt (methodObj f (.ref C)) (.obj (methodObj f (.ref C))) ⟨Heap.get?_push_size _ rfl, methodObj_notImm⟩
  exact wpAny_bind (wpAny_letTemporaryGo (wpAny_pure (mkV (av := .ref _) n.1 (le₁.trans n.2.2.2) VR_ref (q _ n.2.1 n.2.2.1))))
theorem Zlw {q : Addr} {f self : Value} {sv : AV} {avs : List AV} {Q : AV → Hp → Prop} (hq : hp q = some (.obj (methodObj f self))) (hL : q ≠ env.locals) (hs : ∀ h, VR h sv self) (h : CD (model PW W0) B0 E A env f m (sv :: avs) hp Q) : CL (model PW W0) B0 E A env (.ref q) m avs hp Q := fun s vs r hv => by
  refine wpAny_call (method_call (s := s) (r.at hq hL).1 ?_)
  exact h s (self :: vs) r (by simp only [VRs]; exact ⟨_, _, rfl, hs _, hv⟩)
theorem Zpi {xs : List AV} {Q : AV → Hp → Prop} (G : Gnd K B0) (hf : findIn K (.ref 135) "__len__" = some (some (.builtin "tuple.__len__"))) (hm : mroIn K 135 (.type "tuple") = some true) (hsz : xs.length ≤ sizeLine) (h : Q (.int xs.length) hp) : CL (model PW W0) B0 E A env (.builtin "len") m [.mat xs] hp Q := fun s vs r hv => by
  refine hide fun Gq kq => ?_
  obtain ⟨v, rfl, h1⟩ := Zbo hv
  simp only [VR] at h1
  obtain ⟨a, us, rfl, ht, hu⟩ := h1
  have X := G.X.keeps r.keep
  obtain ⟨o, ho, hc, n, hd⟩ := id ht
  refine kq ?_; clear kq Gq
  have e : us.size = xs.length := by rw [← Array.length_toList]; exact hu.length
  have t1 : Looks (model PW W0) s.heap (typeOf (.ref a)) (.ref 135) := by rw [← hc]; exact (Looks.ld ho).andThen .now
  have t2 : Looks (model PW W0) s.heap (isInstance (.ref a) (.type "tuple")) true := t1.andThen (looks_mroIn X hm)
  have t3 := looks_findIn (M := model PW W0) X hf
  refine Calls.call_function_entry kind_len plain_len entry_len (args_len1 _) ?_
  unfold Builtin.«len»
  refine wpAny_bind (m := oneArg "len" _) (wpAny_pure ?_)
  refine wpAny_bind (m := callSpecial? (.ref a) (PySem.Str.ofString "__len__")) ?_
  unfold callSpecial? specialOf
  refine wpAny_bind (wpAny_bind (t1.here (t3.here (wpAny_holding ?_))))
  rw [show bindSpecial (Value.builtin "tuple.__len__") (.ref a) = pure (Value.builtin "tuple.__len__", [.ref a]) from (F.slot_tuple_len).bind _]
  refine wpAny_bind (wpAny_pure (wpAny_bind (wpAny_call (codeAny_call_builtin (F.slot_tuple_len).plain F.entry_tuple_len (check_slot Zn8 Zl5 t2 (F.args_tuple_len_1 _) ?_)))))
  show wpAny _ _ (do retInt (← Builtin.Tuple.tupleItemsOf (.ref a)).size) _ _ s
  refine wpAny_bind (Zec ht ?_)
  refine wpAny_bind (wpAny_mkInt (wpAny_pure ?_))
  refine wpAny_pure ?_
  dsimp only
  refine wpAny_bind (wpAny_holding (wpAny_pure ?_))
  refine wpAny_bind (wpAny_letGo ?_)
  have hlt := sizeLine_eq
  show wpAny _ _ (if ((us.size : Nat) : Int) < 0 then _ else _) _ _ _
  rw [if_neg (by lia)]
  show wpAny _ _ (if ((us.size : Nat) : Int) ≥ 2 ^ 63 then _ else _) _ _ _
  rw [if_neg (by lia)]
  exact wpAny_bind (wpAny_mkInt (wpAny_pure ⟨_, rfl, .int xs.length, hp, (r.toks _).toks _, .refl _, by rw [e]; exact VR_int, h⟩))
end
section
variable {A : Around} {E : Value → Shared → Prop} {env : Env} {m : Loc} {hp : Hp} {K : Frag} {M : Model}
theorem Zcp {sts : List Stmt} {Q : AF → Loc → Hp → Prop} (h : ∀ K : AF → Loc → Hp → Prop, (∀ f m' hp', Q f m' hp' → K f m' hp') → EXs M B0 E A env sts m hp K) : EXs M B0 E A env sts m hp Q := h Q fun _ _ _ x => x
theorem Zq2 {st : Stmt} {Q : AF → Loc → Hp → Prop} (h : ∀ K : AF → Loc → Hp → Prop, (∀ f m' hp', Q f m' hp' → K f m' hp') → EX M B0 E A env st m hp K) : EX M B0 E A env st m hp Q := h Q fun _ _ _ x => x
theorem Zc8 {e : Expr} {Q : Bool → Hp → Prop} (h : ∀ K : Bool → Hp → Prop, (∀ b hp', Q b hp' → K b hp') → TST M B0 E A env e m hp K) : TST M B0 E A env e m hp Q := h Q fun _ _ x => x
theorem Zkl {k : Int} {v : Value} (h : Value.isInt k v = true) : ∃ t, v = .int k t := by
  cases v <;> simp_all [Value.isInt]
theorem Zhb : ∀ {kvs : List (Int × AV)} {i : Nat} {k : Int} {x : AV}, (kvs.map (·.1)).Nodup → kvs[i]? = some (k, x) → dget kvs k = some x
  | [], _, _, _, _, h => by simp at h
  | (k', x') :: kvs, 0, k, x, _, h => by
    simp only [List.getElem?_cons_zero, Option.some.injEq, Prod.mk.injEq] at h
    unfold dget; simp [h.1, h.2]
  | (k', x') :: kvs, i + 1, k, x, nd, h => by
    simp only [List.getElem?_cons_succ] at h
    simp only [List.map_cons, List.nodup_cons] at nd
    have ih := Zhb nd.2 h
    have hne : k' ≠ k := fun e => nd.1 (by rw [e]; exact List.mem_map.mpr ⟨(k, x), List.mem_of_getElem? h, rfl⟩)
    unfold dget at ih ⊢
    rw [List.find?_cons_of_neg (by simpa using hne)]
    exact ih
noncomputable def Zd5 (d : Addr) : Obj := { cls := .type "dict_items", data := .fields #[.ref d] }
theorem viewOb_notImm {d : Addr} : ¬ Imm (Zd5 d) := by rintro ⟨_, _, _, e⟩; cases e
theorem Znk {o : Expr} {apos pos} {pl : Sem Bool} {Q : AV → Hp → Prop} (G : Gnd K B0)
    (h : EV (model PW W0) B0 E A env o m hp fun l hp₁ => ∃ d kvs, l = .ref d ∧ hp₁ d = some (.dict kvs) ∧ d ≠ env.locals ∧ ∀ v, hp₁ v = none → v ≠ env.locals → Q (.ref v) (hp₁.set v (.obj (Zd5 d))))
    (hc : eval (.Call (.Attribute o (PySem.Str.ofString "items") apos) [] [] pos) env = (do
      let ov ← eval o env
      standAt apos.atName
      let (f, first) ← holding [ov] (getMethod ov (PySem.Str.ofString "items") pl)
      callWith pos f first (backTo pos (starEach [] env)) []) := by rfl) :
    EV (model PW W0) B0 E A env (.Call (.Attribute o (PySem.Str.ofString "items") apos) [] [] pos) m hp Q := fun s r => by
  refine MethodCall_ (pl := pl) (h.use r fun u s₁ l hp₁ r₁ le₁ hu x => ?_) hc
  refine hide fun Gq kq => ?_
  obtain ⟨d, kvs, rfl, hd, hL, q⟩ := x
  simp only [VR] at hu; subst hu
  obtain ⟨ps, hps, hk⟩ := r₁.dict hd hL
  refine kq ?_; clear kq Gq
  have hm := hps PW W0
  refine getMethod_builtin hm.typeIs F.plainAttrs_dict F.slot_dict_items F.type_dict_items hm.mapOf.noDict ?_
  refine method_meetsIn F.slot_dict_items F.entry_dict_items rfl (PySem.evalArgs_none ⟨rfl, hm.typeIs, F.args_dict_items_1 _, _, meets_dict_items (intKind PW W0) d (r₁.notSys G (by rw [Hp.sn _ _ hL]; exact hd)), ⟨ps, hm⟩, ?_⟩)
  have n := r₁.newAt (Zd5 d) (.obj (Zd5 d)) ⟨Heap.get?_push_size _ rfl, viewOb_notImm⟩
  exact mkV (av := .ref _) n.1 (le₁.trans n.2.2.2) VR_ref (q _ n.2.1 n.2.2.1)

noncomputable abbrev itO (d : Addr) (n ep : Nat) (i : Nat) (ok ov : Value) : Obj := { cls := .type "dict_itemiterator", data := .fields #[.none, .bool false, .ref d, .int i 0, .int n 0, .int ep 0, ok, ov] }
theorem itO_no {d n ep i ok ov} : ¬ Imm (itO d n ep i ok ov) := fun i => by obtain ⟨_, _, _, e⟩ := i; cases e
noncomputable abbrev Zn1 (PW : Program) (W0 : World) (A : Around) (B0 : Shared) (env : Env) (ta : Expr) (body : List Stmt) (m : Loc) (hp₁ : Hp) (Q : AF → Loc → Hp → Prop) (d : Addr) (kvs : List (Int × AV)) (vw it : Addr) (od : Obj) : Prop :=
  ∃ I : Nat → Loc → Hp → Prop,
      (∀ ob, I 0 m (((hp₁.set vw (.obj (Zd5 d))).set d (.obj od)).set it (.obj ob))) ∧ (∀ i m₂ hp₂ ob, I i m₂ hp₂ → I i m₂ (hp₂.set it (.obj ob))) ∧ (∀ i m₂ hp₂, I i m₂ hp₂ → hp₂ d = some (.obj od)) ∧
      (∀ i k x m₂ hp₂ ob, kvs[i]? = some (k, x) → dget kvs k = some x → I i m₂ hp₂ → hp₂ it = some (.obj ob) → ASG (model PW W0) B0 (fun _ _ => False) A env ta (.tup [.int k, x]) m₂ hp₂ fun m₃ hp₃ => EXs (model PW W0) B0 (fun _ _ => False) A env body m₃ hp₃ fun fl m₄ hp₄ =>
        (fl = .next ∨ fl = .cont) ∧ I (i + 1) m₄ hp₄ ∧ hp₄ it = some (.obj ob)) ∧
      (∀ m₂ hp₂, I kvs.length m₂ hp₂ → Q .next m₂ ((hp₂.set d (.dict kvs)).del it))
noncomputable abbrev Zq0 (PW : Program) (W0 : World) (A : Around) (B0 : Shared) (env : Env) (ta : Expr) (body : List Stmt) (m : Loc) (Q : AF → Loc → Hp → Prop) (vv : AV) (hp₂ : Hp) : Prop :=
  ∃ d kvs hp₁ vw, vv = .ref vw ∧ hp₁ d = some (.dict kvs) ∧ d ≠ env.locals ∧ hp₁ vw = none ∧ vw ≠ env.locals ∧ hp₂ = hp₁.set vw (.obj (Zd5 d)) ∧ ∀ it od, hp₁ it = none → it ≠ env.locals → it ≠ d → it ≠ vw → Zn1 PW W0 A B0 env ta body m hp₁ Q d kvs vw it od

theorem IDict.two {h : Heap} {d : Addr} {ps : List (Int × Value)} {ep : Nat} {od : Obj} (hod : h.get? d = some od) (hid : IDict h d ps) (hat : h.DictAt (intKind PW W0) d ps ep) {h' : Heap} (e : h'.get? d = some od) : h'.DictAt (intKind PW W0) d ps ep ∧ IDict h' d ps := by
  refine hide fun Gq kq => ?_
  obtain ⟨o1, es1, ho1, hr1⟩ := hat
  obtain ⟨o2, es2, ep2, ho2, hr2⟩ := hid
  refine kq ?_; clear kq Gq
  rw [hod] at ho1 ho2; cases ho1; cases ho2
  exact ⟨⟨od, es1, e, hr1⟩, ⟨od, es2, ep2, e, hr2⟩⟩
theorem Ziw {d it : Addr} {ps : List (Int × Value)} {ep i : Nat} {k : Int} {x : AV} {ok ov v : Value} {hp₂ : Hp} {m₂ : Loc} {s' : Shared} {elts : List Expr} {tk tpos} (r' : Rel B0 (hp₂.set env.locals (.ns m₂)) s') (hiL : it ≠ env.locals)
    (hit : hp₂ it = some (.obj (itO d ps.length ep i ok ov))) (hat : s'.heap.DictAt (intKind PW W0) d ps ep) (hpv : ps[i]? = some (k, v)) (hv : VR s'.heap x v) (E' : Value → Shared → Prop) (W : Option Value → Shared → Prop)
    (hW : ∀ v s₁, (∀ U : Unit → Shared → Prop, (∀ s₂ hp', VR s₂.heap (.tup [.int k, x]) v → Rel B0 (hp'.set env.locals (.ns m₂)) s₂ → ImmLe s'.heap s₂.heap → (∃ ob, hp' = hp₂.set it (.obj ob) ∧ ∃ ok ov, ob = itO d ps.length ep (i + 1) ok ov) → U () s₂) → wpAny (model PW W0) A (letOwnedTupleGo (.Tuple elts tk tpos) (.ref it) v) U E' s₁) → W (some v) s₁) :
    wpAny (model PW W0) A (pyNext (.ref it)) W E' s' := by
  have hit3 := (r'.at hit hiL).1
  refine wpAny_pyNext_items_item hit3 hat hpv fun key h₁ hkey heo ht₁ hz₁ hk₁ => hW _ _ fun U hU => wpAny_letOwnedTupleGo_items heo fun h₂ he₂ hs₂ => ?_
  obtain ⟨tk', rfl⟩ := Zkl hkey
  have kp : ∀ b ob, b ≠ it → s'.heap.get? b = some ob → h₂.get? b = some ob := fun b ob hb e => (hs₂.2 b hb).trans (hk₁ b ob hb e)
  have leB : ImmLe s'.heap h₂ := fun b ob e im => kp b ob (fun hb => itO_no (by rw [hb, hit3] at e; cases e; exact im)) e
  have htup : h₂.get? s'.heap.objs.size = some { cls := .type "tuple", data := .seq #[.int k tk', v] } := (hs₂.2 _ (Nat.ne_of_gt (Heap.lt_size hit3))).trans ht₁
  have hlow := (r'.objs it _ (by rw [Hp.sn _ _ hiL]; exact hit)).1
  refine hU _ (hp₂.set it (.obj (itO d ps.length ep (i + 1) (.int k tk') v))) ?_ ⟨fun b ob e => kp b ob (fun hb => ?_) (r'.keep b ob e), fun a o' e => ?_, r'.os, r'.bare, ?_⟩ leB ⟨_, rfl, _, _, rfl⟩
  · simp only [VR, VRs]
    exact ⟨_, #[.int k tk', v], rfl, ⟨_, htup, rfl, 0, rfl⟩, _, _, rfl, ⟨_, rfl⟩, _, _, rfl, hv.mono leB, rfl⟩
  · subst hb; exact absurd (Heap.lt_size e) (Nat.not_lt.mpr hlow)
  · by_cases ha : a = it
    · subst ha; rw [Hp.sn _ _ hiL, Hp.ss] at e; cases e
      exact ⟨hlow, he₂, itO_no⟩
    · have e' : (hp₂.set env.locals (.ns m₂)) a = some o' := by
        rw [Hp.sc _ _ _ hiL, Hp.sn _ _ ha] at e; exact e
      exact ⟨(r'.objs a o' e').1, (r'.objs a o' e').2.here leB fun o'' e'' => kp _ _ ha e''⟩
  · show _ ≤ h₂.objs.size
    rw [hs₂.1, hz₁]; exact Nat.le_trans r'.size (Nat.le_succ _)
theorem Rel.exact {s : Shared} {d : Addr} {o : AO} {od : Obj} (r : Rel B0 (hp.set env.locals (.ns m)) s) (hd : hp d = some o) (hL : d ≠ env.locals) (hod : s.heap.get? d = some od) (hi : ¬ Imm od) : Rel B0 ((hp.set d (.obj od)).set env.locals (.ns m)) s :=
  ⟨r.keep, fun a o' e => by
    rw [Hp.sc _ _ _ hL] at e
    by_cases h2 : a = d
    · subst h2; rw [Hp.ss] at e; cases e
      exact ⟨(r.objs a _ (by rw [Hp.sn _ _ hL]; exact hd)).1, hod, hi⟩
    · rw [Hp.sn _ _ h2] at e; exact r.objs _ _ e, r.os, r.bare, r.size⟩
theorem Rel.back {s : Shared} {d : Addr} {o o' : AO} (r : Rel B0 (hp.set env.locals (.ns m)) s) (hd : hp d = some o') (hL : d ≠ env.locals) (ho : OR s.heap d o) : Rel B0 ((hp.set d o).set env.locals (.ns m)) s :=
  ⟨r.keep, fun a o' e => by
    rw [Hp.sc _ _ _ hL] at e
    by_cases h2 : a = d
    · subst h2; rw [Hp.ss] at e; cases e
      exact ⟨(r.objs a _ (by rw [Hp.sn _ _ hL]; exact hd)).1, ho⟩
    · rw [Hp.sn _ _ h2] at e; exact r.objs _ _ e, r.os, r.bare, r.size⟩
structure DEx (PW : Program) (W0 : World) (h : Heap) (d : Addr) (kvs : List (Int × AV)) (ps : List (Int × Value)) (ep : Nat) (od : Obj) : Prop where
  hod : h.get? d = some od
  no : ¬ Imm od
  hat : h.DictAt (intKind PW W0) d ps ep
  hid : IDict h d ps
  kv : KVR h kvs ps
  nd : (kvs.map (·.1)).Nodup
theorem Rel.dex {s : Shared} {d : Addr} {kvs : List (Int × AV)} (r : Rel B0 (hp.set env.locals (.ns m)) s) (hd : hp d = some (.dict kvs)) (hL : d ≠ env.locals) : ∃ ps ep od, DEx PW W0 s.heap d kvs ps ep od := by
  refine hide fun Gq kq => ?_
  obtain ⟨ps, hid, hk1, hk2⟩ := r.at hd hL
  obtain ⟨ep, hat⟩ := (hid.dictOf PW W0).dictAt
  obtain ⟨od, es, _, hod, _, hdd, _, _, nd⟩ := id hid
  refine kq ?_; clear kq Gq
  exact ⟨ps, ep, od, hod, fun i => (by obtain ⟨_, _, _, e⟩ := i; rw [hdd] at e; cases e), hat, hid, ⟨hk1, hk2⟩, by rw [← hk1]; exact nd⟩
theorem DEx.later {h h' : Heap} {d : Addr} {kvs : List (Int × AV)} {ps : List (Int × Value)} {ep : Nat} {od : Obj} (D : DEx PW W0 h d kvs ps ep od) (e : h'.get? d = some od) : h'.DictAt (intKind PW W0) d ps ep ∧ IDict h' d ps := IDict.two D.hod D.hid D.hat e
theorem DEx.at {h : Heap} {d : Addr} {kvs : List (Int × AV)} {ps : List (Int × Value)} {ep : Nat} {od : Obj} (D : DEx PW W0 h d kvs ps ep od) {i : Nat} (hi : i < kvs.length) : ∃ k x v, kvs[i]? = some (k, x) ∧ ps[i]? = some (k, v) ∧ dget kvs k = some x ∧ VR h x v := by
  refine hide fun Gq kq => ?_
  obtain ⟨⟨k, x⟩, hkx⟩ : ∃ y, kvs[i]? = some y := ⟨_, List.getElem?_eq_getElem hi⟩
  obtain ⟨⟨k', v⟩, hpv⟩ : ∃ y, ps[i]? = some y := ⟨_, List.getElem?_eq_getElem (D.kv.length ▸ hi)⟩
  have ek : k' = k := by
    have a := congrArg (fun l => l[i]?) D.kv.1
    simp only [List.getElem?_map, hkx, hpv, Option.map_some, Option.some.injEq] at a
    exact a
  subst ek
  refine kq ?_; clear kq Gq
  refine ⟨k', x, v, hkx, hpv, Zhb D.nd hkx, ?_⟩
  refine hide fun Gq kq => ?_
  obtain ⟨v', e, hv⟩ := D.kv.2.get (i := i) (x := x) (by rw [List.getElem?_map, hkx]; rfl)
  refine kq ?_; clear kq Gq
  rw [List.getElem?_map, hpv] at e; cases e; exact hv
theorem Hp.del_set (hp : Hp) {a b : Addr} (o : AO) (h : a ≠ b) : (hp.set a o).del b = (hp.del b).set a o := by
  funext c; simp only [Hp.set, Hp.del]; by_cases h1 : c = b
  · subst h1; simp [Ne.symm h]
  · simp [h1]
theorem Zhm {elts : List Expr} {tk tpos} {o : Expr} {body : List Stmt} {apos cpos pos} {pl : Sem Bool} {Q : AF → Loc → Hp → Prop} (G : Gnd K B0) (hh : A.handled = none)
    (h : EV (model PW W0) B0 E A env o m hp fun v hp₁ => ∃ d kvs, v = .ref d ∧ hp₁ d = some (.dict kvs) ∧ d ≠ env.locals ∧ ∀ vw it od, hp₁ vw = none → vw ≠ env.locals → vw ≠ d → hp₁ it = none → it ≠ env.locals → it ≠ d → it ≠ vw → Zn1 PW W0 A B0 env (.Tuple elts tk tpos) body m hp₁ Q d kvs vw it od)
    (hc : eval (.Call (.Attribute o (PySem.Str.ofString "items") apos) [] [] cpos) env = (do
      let ov ← eval o env
      standAt apos.atName
      let (f, first) ← holding [ov] (getMethod ov (PySem.Str.ofString "items") pl)
      callWith cpos f first (backTo cpos (starEach [] env)) []) := by rfl)
    (hs : ∀ x, foldedSetIterable (.Call (.Attribute o (PySem.Str.ofString "items") apos) [] [] cpos) env x = pure x := by intro _; rfl) :
    EX (model PW W0) B0 E A env (.For (.Tuple elts tk tpos) (.Call (.Attribute o (PySem.Str.ofString "items") apos) [] [] cpos) body [] pos) m hp Q := fun s r => by
  refine wpAny_For ((Znk (Q := Zq0 PW W0 A B0 env (.Tuple elts tk tpos) body m Q) G (h.mono fun v hp₁ x => by
    refine hide fun Gq kq => ?_
    obtain ⟨d, kvs, e1, e2, e3, q⟩ := x
    refine kq ?_; clear kq Gq
    exact ⟨d, kvs, e1, e2, e3, fun vw hv hvL => ⟨d, kvs, hp₁, vw, rfl, e2, e3, hv, hvL, rfl, fun it od h1 h2 h3 h4 => q vw it od hv hvL (fun e => by rw [e, e2] at hv; cases hv) h1 h2 h3 h4⟩⟩) hc).use r fun u s₁ vv hp₂ r₁ le₁ hu x => ?_) hs
  refine hide fun Gq kq => ?_
  obtain ⟨d, kvs, hp₁, vw, rfl, hd, hL, hvw, hvL, rfl, q⟩ := x
  simp only [VR] at hu; subst hu
  have hvd : vw ≠ d := fun e => by rw [e, hd] at hvw; cases hvw
  have hd2 : (hp₁.set vw (.obj (Zd5 d))) d = some (.dict kvs) := by rw [Hp.sn _ _ (Ne.symm hvd)]; exact hd
  obtain ⟨ps, ep, od, D⟩ := r₁.dex hd2 hL
  refine kq ?_; clear kq Gq
  refine wpAny_pyIter_items (knd := intKind PW W0) (d := d) (kvs := ps) (ep := ep) ⟨_, (r₁.at (Hp.ss ..) hvL).1, rfl, rfl⟩ D.hat ?_
  refine hide fun Gq kq => ?_
  obtain ⟨rel1, hit, hiL, le2⟩ := (r₁.exact hd2 hL D.hod D.no).newAt (itO d ps.length ep 0 .none .none) (.obj (itO d ps.length ep 0 .none .none)) ⟨Heap.get?_push_size _ rfl, itO_no⟩
  have hitd : s₁.heap.objs.size ≠ d := fun e => by rw [e, Hp.ss] at hit; cases hit
  have hitv : s₁.heap.objs.size ≠ vw := fun e => by rw [e, Hp.sn _ _ hvd, Hp.ss] at hit; cases hit
  have hit1 : hp₁ s₁.heap.objs.size = none := by rw [Hp.sn _ _ hitd, Hp.sn _ _ hitv] at hit; exact hit
  generalize s₁.heap.objs.size = it at *
  obtain ⟨I, i0, iset, idd, iturn, ifin⟩ := q it od hit1 hiL hitd hitv
  refine kq ?_; clear kq Gq
  refine Zq1 (n := kvs.length) (el := fun i => .tup [.int (kvs.getD i (0, .none)).1, (kvs.getD i (0, .none)).2]) (s₀ := s₁) (J := fun i m₂ hp₂ => I i m₂ hp₂ ∧ ∃ ob, hp₂ it = some (.obj ob) ∧ ∃ ok ov, ob = itO d ps.length ep i ok ov)
    (J' := fun i m₂ hp₂ => I i m₂ hp₂ ∧ ∃ ob, hp₂ it = some (.obj ob) ∧ ∃ ok ov, ob = itO d ps.length ep (i + 1) ok ov) (Q := Q)
    (fun i m₂ hp₂ s' hi hJ r' le E' W hW => ?_) (fun m₂ hp₂ s' hJ r' le E' W hW => ?_) (fun i m₂ hp₂ hi hJ => ?_) (fun fl af m' hp' s' r' le' hf q => mkX (af := af) r' (le₁.trans le') hf q) ⟨i0 _, _, Hp.ss .., _, _, rfl⟩ rel1 le2
  · refine hide fun Gq kq => ?_
    obtain ⟨hI, ob, hob, ok, ov, rfl⟩ := hJ
    obtain ⟨k, x, v, e1, e2, e3, hv⟩ := D.at hi
    refine kq ?_; clear kq Gq
    refine Ziw (x := x) r' hiL hob (D.later (r'.at (idd _ _ _ hI) hL).1).1 e2 (hv.mono le) E' W fun v s₁ k => hW v s₁ fun U hU => k U fun s₂ hp' hv r₂ le₂ ho => ?_
    refine hide fun Gq kq => ?_
    obtain ⟨ob, rfl, ho⟩ := ho
    refine kq ?_; clear kq Gq
    exact hU s₂ _ (by rw [List.getD_eq_getElem?_getD, e1]; exact hv) r₂ le₂ ⟨iset _ _ _ _ hI, ob, Hp.ss .., ho⟩
  · refine hide fun Gq kq => ?_
    obtain ⟨hI, ob, hob, ok, ov, rfl⟩ := hJ
    refine kq ?_; clear kq Gq
    have O := r'.at (idd _ _ _ hI) hL
    refine wpAny_pyNext_items_end hh (r'.at hob hiL).1 (D.later O.1).1 (by rw [List.getElem?_eq_none]; exact Nat.le_of_eq D.kv.length) fun h'' hx => ?_
    refine hide fun Gq kq => ?_
    obtain ⟨r'', le''⟩ := r'.drop hob hiL hx s'.toks
    refine kq ?_; clear kq Gq
    have hd3 : hp₂.del it d = some (.obj od) := by rw [Hp.del_ne _ (Ne.symm hitd)]; exact idd _ _ _ hI
    refine hW _ _ (r''.back (o := .dict kvs) hd3 hL ⟨ps, (D.later (r''.at hd3 hL).1).2, D.kv.1, D.kv.2.mono (le.trans le'')⟩) le'' ?_
    rw [← Hp.del_set _ _ (Ne.symm hitd)]
    exact ifin _ _ hI
  · refine hide fun Gq kq => ?_
    obtain ⟨hI, ob, hob, _, _, rfl⟩ := hJ
    refine kq ?_; clear kq Gq
    refine (iturn i _ _ m₂ hp₂ _ (by rw [List.getD_eq_getElem?_getD, List.getElem?_eq_getElem hi]; rfl) (Zhb D.nd (by rw [List.getD_eq_getElem?_getD, List.getElem?_eq_getElem hi]; rfl)) hI hob).mono fun m₃ hp₃ x => x.mono fun fl m₄ hp₄ y => ?_
    refine hide fun Gq kq => ?_
    obtain ⟨hf, y1, y2⟩ := y
    refine kq ?_; clear kq Gq
    rcases hf with rfl | rfl <;> exact ⟨y1, _, y2, _, _, rfl⟩
end
theorem Zew : entryFor table "set.__iter__" = some Builtin.«frozenset.__iter__» :=
  entryFor_alias (id' := "frozenset.__iter__") (by kernel_rfl) rfl (by decide +kernel) (by kernel_rfl)
theorem slot_si_next : Slot "set_iterator" "__next__" "set_iterator.__next__" :=
  .of (owner := "set_iterator") (n := "__next__") (by rw [typeLookup_type, builtinLookup_eq_fast]; kernel_rfl) (by decide +kernel) (by decide +kernel) (by decide +kernel)
    (by first | exact .inl (by decide +kernel) | exact .inr (by decide +kernel)) (by rw [isSubtype_type]; kernel_rfl)
theorem Zfq : entryFor table "set_iterator.__next__" = some Builtin.«set_iterator.__next__» := entryFor_of_tree (by kernel_rfl)
theorem Zgk (a : Value) : argsOk "set_iterator.__next__" ⟨[a], []⟩ := by unfold argsOk; kernel_rfl
section
variable {A : Around} {E : Value → Shared → Prop} {env : Env} {m : Loc} {hp : Hp} {K : Frag}
theorem Zc4 {s : Shared} {Q : Bool → Shared → Prop} (h : Q (W0.params.followText "set-order") s) : wpAny (model PW W0) A setsByText Q E s := by
  unfold setsByText
  exact wpAny_bind (wpAny_askSetting (wpAny_pure h))
theorem Zki {a : Addr} {o : Obj} {es : Array (Int × Value)} {ep : Nat} {t : SetTable} {s : Shared} {Q : Value → Shared → Prop} (ho : s.heap.get? a = some o) (hex : o.ExactSet) (hd : o.data = .set es ep t) (hf : t.fits es.size = true) (h0 : es.size = 0)
    (hQ : Q (.ref s.heap.objs.size) { s with heap := s.heap.push { cls := .type "set_iterator", data := .fields #[.int 0 0, .int 0 0, .ref a, .int 0 0, rawInt ep] } }) : wpAny (model PW W0) A (pyIter (.ref a)) Q E s := by
  have hT : s.TypeIs (.ref a) "set" := ⟨o, ho, hex.1⟩
  refine wpAny_pyIter_slot hT F.slot_set_iter (wpAny_call_entry F.slot_set_iter hT Zew ?_ (F.args_set_iter_1 _))
  unfold Builtin.«frozenset.__iter__» Builtin.Frozenset.slot0 slotArgs
  simp only [List.isEmpty_nil, Bool.not_true, Bool.false_eq_true, ↓reduceIte, bind_assoc, List.length_nil, bne_self_eq_false]
  unfold Builtin.Frozenset.addrOf Builtin.Frozenset.sizeOf
  refine wpAny_bind (wpAny_pure ?_)
  try dsimp only
  refine wpAny_bind (wpAny_pure ?_)
  refine wpAny_bind (wpAny_bind (wpAny_setEntries_of ho hd hf (wpAny_pure ?_)))
  unfold setDrawn
  refine wpAny_bind (wpAny_bind (wpAny_setState_of ho hd hf ?_))
  refine wpAny_bind (Zc4 (wpAny_pure ?_))
  split
  · rename_i h
    have h' : (!W0.params.followText "set-order" && (!t.plain && decide (es.size > 1))) = true := h
    simp [h0] at h'
  · refine wpAny_bind (wpAny_pure (wpAny_bind (wpAny_setEpoch_of ho hd hf ?_)))
    rw [h0]
    exact wpAny_bind (wpAny_newObj_type (wpAny_pure ⟨_, rfl, "set_iterator", _, ⟨_, Heap.get?_push_size _ rfl, rfl⟩, slot_si_next.lookup, hQ⟩))
theorem Zj6 {a it : Addr} {o : Obj} {es : Array (Int × Value)} {ep : Nat} {t : SetTable} {s : Shared} {Q : Option Value → Shared → Prop} (hh : A.handled = none) (ho : s.heap.get? a = some o) (hd : o.data = .set es ep t) (hf : t.fits es.size = true) (h0 : es.size = 0)
    (hit : s.heap.get? it = some { cls := .type "set_iterator", data := .fields #[.int 0 0, .int 0 0, .ref a, .int 0 0, rawInt ep] }) (hQ : ∀ h', Heap.ExtBut it s.heap h' → Q none { s with heap := h' }) : wpAny (model PW W0) A (pyNext (.ref it)) Q E s := by
  have hT : s.TypeIs (.ref it) "set_iterator" := ⟨_, hit, rfl⟩
  unfold pyNext
  refine wpAny_bind (wpAny_attempt (wpAny_callSpecial?_slot (name := PySem.Str.ofString "__next__") hT slot_si_next (wpAny_call_entry slot_si_next hT Zfq ?_ (Zgk _))))
  show wpAny _ _ (fieldsOf (.ref it) >>= _) _ _ s
  refine wpAny_bind (wpAny_fieldsOf hit rfl ?_)
  dsimp only
  refine wpAny_bind (wpAny_setEntries_of ho hd hf ?_)
  rw [h0]
  dsimp only [Int.natCast_zero, bne_self_eq_false, Bool.false_eq_true, if_false]
  have emp : es = #[] := Array.eq_empty_of_size_eq_zero h0
  subst emp
  refine wpAny_bind (wpAny_mono (Q := fun r s' => r = none ∧ s' = s) (E := fun _ _ => False) ?_ ?_ ?_)
  · unfold setNext
    refine wpAny_bind (wpAny_setState_of ho hd hf ?_)
    refine wpAny_bind (Zc4 ?_)
    split
    · rw [if_neg (by simp)]
      refine wpAny_bind ?_
      unfold setWalk
      refine wpAny_bind (wpAny_setState_of ho hd hf ?_)
      refine wpAny_bind (Zc4 ?_)
      rename_i hb
      rw [if_pos hb]
      exact wpAny_bind (wpAny_askSetting (wpAny_pure (wpAny_pure ⟨rfl, rfl⟩)))
    · split
      · rename_i h
        have h' : (!t.plain && decide ((#[] : Array (Int × Value)).size > 1)) = true := h
        simp at h'
      · show wpAny _ _ ((if (!t.led && !(#[] : Array (Int × Value)).isEmpty) = true then unsupported "set:maker-not-led" else pure ()) >>= fun _ => _) _ _ _
        rw [if_neg (by simp)]
        refine wpAny_bind (wpAny_pure ?_)
        exact wpAny_pure ⟨rfl, rfl⟩
  · rintro r s' ⟨rfl, rfl⟩
    dsimp only
    refine wpAny_bind (wpAny_setField hit rfl (by simp) ?_)
    show wpAny _ _ (newExc (.type "StopIteration") [] >>= _) _ _ _
    refine wpAny_bind ?_
    simp only [newExc, newTuple]
    refine wpAny_bind (wpAny_newObj_type ?_ (by size_fits))
    refine wpAny_bind (m := firstArgMember _ _) (wpAny_of_eq (a := Value.none) (by first | rfl | (simp only [firstArgMember]; rfl)) ?_)
    refine wpAny_newObj_type ?_ (by size_fits)
    dsimp only [raiseNew]
    refine wpAny_bind (wpAny_handled ?_)
    rw [show A.in1.handled = none from hh]
    refine wpAny_bind (wpAny_pure (wpAny_throw ?_))
    refine wpAny_bind (wpAny_isInstance (T := "StopIteration") (b := true) ⟨_, Heap.get?_push_size _ rfl, rfl⟩ isSubtype_stop ?_)
    exact wpAny_pure (hQ _ (((Heap.SameBut.update ..).extBut.push _).push _))
  · exact fun _ _ x => x.elim
theorem Zjg {target iter : Expr} {body : List Stmt} {pos} {Q : AF → Loc → Hp → Prop} (hh : A.handled = none)
    (h : EV (model PW W0) B0 E A env iter m hp fun o hp₁ => ∃ a f, o = .ref a ∧ hp₁ a = some (.set f 0) ∧ a ≠ env.locals ∧ Q .next m hp₁)
    (hs : ∀ x, foldedSetIterable iter env x = pure x := by intro _; rfl) :
    EX (model PW W0) B0 E A env (.For target iter body [] pos) m hp Q := fun s r => by
  refine wpAny_For (h.use r fun u s₁ o hp₁ r₁ le₁ hu x => ?_) hs
  refine hide fun Gq kq => ?_
  obtain ⟨a, f, rfl, ha, hL, q⟩ := x
  simp only [VR] at hu; subst hu
  obtain ⟨o, es, ep, t, ho, hex, hd, _, _, _, hf, h0⟩ := r₁.at ha hL
  refine kq ?_; clear kq Gq
  refine Zki ho hex hd hf h0 ?_
  refine hide fun Gq kq => ?_
  have n := r₁.newAt { cls := .type "set_iterator", data := .fields #[.int 0 0, .int 0 0, .ref a, .int 0 0, rawInt ep] } (.obj { cls := .type "set_iterator", data := .fields #[.int 0 0, .int 0 0, .ref a, .int 0 0, rawInt ep] }) ⟨Heap.get?_push_size _ rfl, fun i => by obtain ⟨_, _, _, e⟩ := i; cases e⟩
  obtain ⟨rel, hit, hiL, le2⟩ := n
  refine kq ?_; clear kq Gq
  have hai : a ≠ s₁.heap.objs.size := Hp.ne_of ha hit
  have ho2 : (s₁.heap.push { cls := .type "set_iterator", data := .fields #[.int 0 0, .int 0 0, .ref a, .int 0 0, rawInt ep] }).get? a = some o := Heap.get?_push_of_some _ ho
  have hi2 := Heap.get?_push_size s₁.heap (o := { cls := .type "set_iterator", data := .fields #[.int 0 0, .int 0 0, .ref a, .int 0 0, rawInt ep] }) rfl
  refine codeAny_forLoop_any (fun _ s' => s' = { s₁ with heap := s₁.heap.push { cls := .type "set_iterator", data := .fields #[.int 0 0, .int 0 0, .ref a, .int 0 0, rawInt ep] } }) (fun k s' x => ?_) 0 rfl
  subst x
  refine Zj6 hh ho2 hd hf h0 hi2 fun h' he => ?_
  refine hide fun Gq kq => ?_
  obtain ⟨r', le'⟩ := rel.drop (Hp.ss ..) hiL he s₁.toks
  refine kq ?_; clear kq Gq
  refine wpAny_execs_nil ⟨.next, m, hp₁, r'.sub fun z oz e => ?_, (le₁.trans le2).trans le', rfl, q⟩
  by_cases hz : z = env.locals
  · subst hz; rw [Hp.ss] at e ⊢; exact e
  · rw [Hp.sn _ _ hz] at e ⊢
    have hzi : z ≠ s₁.heap.objs.size := Hp.ne_of e hit
    rw [Hp.del_ne _ hzi, Hp.sn _ _ hzi]; exact e
end
section
variable {A : Around} {E : Value → Shared → Prop} {env : Env} {m : Loc} {hp : Hp} {K : Frag}
noncomputable def Other (B0 : Shared) (hp : Hp) (L : Addr) (a : Addr) (v : AV) : Prop := v = .none ∨ (∃ x, v = .str x) ∨ ∃ b xs ys, v = .ref b ∧ Lst B0 hp L b ys ∧ Lst B0 hp L a xs ∧ a ≠ b
theorem Zi3 {a : Addr} {v : AV} {Q : AV → Hp → Prop} (ho : Other B0 hp env.locals a v) (h : Q (.bool false) hp) : OP2 (model PW W0) B0 E A env (compareOp .Is) m (.ref a) v hp Q := by
  rcases ho with rfl | ⟨x, rfl⟩ | ⟨b, xs, ys, rfl, hb, ha, hne⟩
  · exact Zdn h
  · intro s u v r hu hv
    simp only [VR] at hu hv
    subst hu
    obtain ⟨t, rfl⟩ := hv
    show wpAny _ _ (do return Value.bool (← isSame (.ref a) (.str x t))) _ _ _
    exact wpAny_bind (wpAny_pure (wpAny_pure (mkV (av := .bool false) r (.refl _) VR_bool h)))
  · refine Znb (fun s r => ?_) (fun s r => ?_) (by rw [show (a == b) = false from by simpa using hne]; exact h)
    · obtain ⟨us, ⟨o, ho, hc, _⟩, _⟩ := r.lst ha; exact ⟨o, ho, hc⟩
    · obtain ⟨us, ⟨o, ho, hc, _⟩, _⟩ := r.lst hb; exact ⟨o, ho, hc⟩
theorem Zls {func : Expr} {pos} {f : Addr} {Q : AV → Hp → Prop} (G : Gnd K B0) (hk : keepIn K (.ref f) = true)
    (h : EV (model PW W0) B0 E A env func m hp fun v hp₁ => v = .ref f ∧ CL (model PW W0) B0 E A env (.ref f) m [] hp₁ Q)
    (hc : eval (.Call func [] [] pos) env = (do callWith pos (← eval func env) [] (backTo pos (starEach [] env)) (backToKw pos (keywordEach [] env))) := by rfl) :
    EV (model PW W0) B0 E A env (.Call func [] [] pos) m hp Q := fun s r => by
  refine Call_ (h.use r fun u s₁ v hp₁ r₁ le₁ hu yq => ?_) hc
  obtain ⟨hf, q⟩ := yq
  subst hf; simp only [VR] at hu; subst hu
  refine callWith_K0 (K := K) (G.X.keeps r₁.keep) hk ?_
  exact useV (q s₁ [] r₁ (by simp only [VRs])) fun v s₃ av hp₃ r₃ le₃ hv q => mkV r₃ (le₁.trans le₃) hv q
theorem Zph {x : PySem.Str} {Q : AV → Hp → Prop} (hx : x.length < 1000) (h : Q (.int x.length) hp) : CL (model PW W0) B0 E A env (.builtin "len") m [.str x] hp Q := fun s vs r hv => by
  obtain ⟨v, rfl, h1⟩ := Zbo hv
  simp only [VR] at h1; obtain ⟨t, rfl⟩ := h1
  exact PySem.P.len_str (by lia) ⟨.int x.length, hp, (r.toks _).toks _, .refl _, VR_int, h⟩
theorem Zgw {target func xe : Expr} {body : List Stmt} {cpos pos} {Q : AF → Loc → Hp → Prop} (hh : A.handled = none)
    (h : EV (model PW W0) B0 E A env func m hp fun f hp₁ => f = .ty "enumerate" ∧ EVS (model PW W0) B0 E A env [xe] m hp₁ fun vs hp₂ => vs = [.str (PySem.Str.ofString "")] ∧ Q .next m hp₂)
    (hc : eval (.Call func [xe] [] cpos) env = (do callWith cpos (← eval func env) [] (backTo cpos (starEach [xe] env)) (backToKw cpos (keywordEach [] env))) := by rfl)
    (he : starEach [xe] env = [(false, eval xe env)] := by rfl)
    (hs : ∀ x, foldedSetIterable (.Call func [xe] [] cpos) env x = pure x := by intro _; rfl) :
    EX (model PW W0) B0 E A env (.For target (.Call func [xe] [] cpos) body [] pos) m hp Q := fun s r => by
  refine wpAny_For (Call_ (h.use r fun u s₁ f hp₁ r₁ le₁ hu yq => ?_) hc) hs
  obtain ⟨hf, q⟩ := yq
  subst hf; simp only [VR] at hu; subst hu
  refine PyProof.Rows.callWith_type1 (Zc3 (q cpos s₁ r₁) fun vs s₂ avs hp₂ r₂ le₂ hv q => ?_) he rfl
  obtain ⟨rfl, q⟩ := q
  obtain ⟨v, rfl, h1⟩ := Zbo hv
  simp only [VR] at h1; obtain ⟨t, rfl⟩ := h1
  refine call_enumerate_str fun h' hen hit hz hk => ?_
  refine wpAny_pyIter_enum (s := { s₂ with heap := h' }) hen ?_
  refine codeAny_forLoop_any (fun _ s' => s' = { s₂ with heap := h' }) (fun n s' e => ?_) 0 rfl
  subst e
  rw [show strIterType (PySem.Str.ofString "") = "str_ascii_iterator" from by kernel_rfl] at hit
  refine wpAny_pyNext_enum_endD (St := fun i h => h.IsStrIter s₂.heap.objs.size "str_ascii_iterator" (PySem.Str.ofString "") t i) (n := (PySem.Str.ofString "").cps.size) (Draws.strAscii (A := A.in1) hh _ (PySem.Str.ofString "") t) hen (show h'.IsStrIter _ "str_ascii_iterator" (PySem.Str.ofString "") t (PySem.Str.ofString "").cps.size from hit) fun h'' hx => ?_
  have hk' : ∀ b o, s₂.heap.get? b = some o → h''.get? b = some o := fun b o e => hx b o (Nat.ne_of_lt (Heap.lt_size e)) (hk b o e)
  have g := r₂.grown hk' s₂.toks
  exact wpAny_execs_nil ⟨.next, m, hp₂, g.1, (le₁.trans le₂).trans g.2, rfl, q⟩
end
noncomputable abbrev KW (W0 : World) : Frag := KP PW W0.params
noncomputable abbrev mS (i : Nat) : Stmt := inS (topS PW 5) i
noncomputable abbrev fdS (i : Nat) (name : String) (dflt : Value) (tok code : Nat) : FuncData := fnD (mS i) (S name) dflt .none tok (.str (S "cpy313.difflib") 194) none (.ref code) .none []
noncomputable def Zku : FuncData := fdS 1 "SequenceMatcher.__init__" (.ref 153) 416 159
noncomputable def Zkt : FuncData := fdS 2 "SequenceMatcher.set_seqs" .none 426 166
noncomputable def Zqm : FuncData := fdS 3 "SequenceMatcher.set_seq1" .none 435 173
noncomputable def Zny : FuncData := fdS 4 "SequenceMatcher.set_seq2" .none 444 180
noncomputable def Zc6 : FuncData := fdS 5 "SequenceMatcher.__chain_b" .none 0 187
noncomputable def Zdg : FuncData := fdS 6 "SequenceMatcher.find_longest_match" (.ref 189) 490 195
noncomputable def fdMB : FuncData := fdS 7 "SequenceMatcher.get_matching_blocks" .none 517 202
noncomputable def Zdt : FuncData := fdS 8 "SequenceMatcher.get_opcodes" .none 532 209
theorem Zrt (W0 : World) : (KW W0).lookup 160 = some ⟨.type "function", none, .func Zku, #[]⟩ := rfl
theorem Zrp (W0 : World) : (KW W0).lookup 167 = some ⟨.type "function", none, .func Zkt, #[]⟩ := rfl
theorem Zrr (W0 : World) : (KW W0).lookup 174 = some ⟨.type "function", none, .func Zqm, #[]⟩ := rfl
theorem Zrq (W0 : World) : (KW W0).lookup 181 = some ⟨.type "function", none, .func Zny, #[]⟩ := rfl
theorem Zqd (W0 : World) : (KW W0).lookup 188 = some ⟨.type "function", none, .func Zc6, #[]⟩ := rfl
theorem kFlm (W0 : World) : (KW W0).lookup 196 = some ⟨.type "function", none, .func Zdg, #[]⟩ := rfl
theorem kMB (W0 : World) : (KW W0).lookup 203 = some ⟨.type "function", none, .func fdMB, #[]⟩ := rfl
theorem Zqc (W0 : World) : (KW W0).lookup 210 = some ⟨.type "function", none, .func Zdt, #[]⟩ := rfl
theorem clsS (W0 : World) : Cls (KW W0) 242 := ⟨by kernel_rfl, by kernel_rfl, by kernel_rfl, by kernel_rfl, by kernel_rfl⟩
theorem Zp6 (W0 : World) : makesIn (KW W0) 242 = true := by kernel_rfl
theorem Zj5 (W0 : World) : attrNames.all (fun n => findIn (KW W0) (.ref 242) n == some none && takerIn (KW W0) 242 n == some none) = true := by kernel_rfl
theorem Zp1 (W0 : World) {n : PySem.Str} (h : n ∈ attrNames) : findIn (KW W0) (.ref 242) n = some none := by
  have := List.all_eq_true.mp (Zj5 W0) n h
  rw [Bool.and_eq_true] at this
  exact eq_of_beq this.1
theorem Zon (W0 : World) {n : PySem.Str} (h : n ∈ attrNames) : takerIn (KW W0) 242 n = some none := by
  have := List.all_eq_true.mp (Zj5 W0) n h
  rw [Bool.and_eq_true] at this
  exact eq_of_beq this.2
theorem Zk3 : bootBuiltins (PySem.Str.ofString "set") = some (.type "set") := by boot_fast
theorem Zic : bootBuiltins (PySem.Str.ofString "enumerate") = some (.type "enumerate") := by boot_fast
theorem Zbj : bootBuiltins (PySem.Str.ofString "len") = some (.builtin "len") := by boot_fast
theorem Zci : bootBuiltins (PySem.Str.ofString "range") = some (.type "range") := by boot_fast
theorem Zo3 : bootBuiltins (PySem.Str.ofString "max") = some (.builtin "max") := by boot_fast
theorem Znt (W0 : World) : nsIn (KW W0) mainGlobals (S "set") = some none := by kernel_rfl
theorem Zj4 (W0 : World) : nsIn (KW W0) mainGlobals (S "enumerate") = some none := by kernel_rfl
theorem Zbz (W0 : World) : nsIn (KW W0) mainGlobals (S "len") = some none := by kernel_rfl
theorem Zcw (W0 : World) : nsIn (KW W0) mainGlobals (S "range") = some none := by kernel_rfl
theorem Zpz (W0 : World) : nsIn (KW W0) mainGlobals (S "max") = some none := by kernel_rfl
theorem g_SM (W0 : World) : nsIn (KW W0) mainGlobals (S "SequenceMatcher") = some (some (.ref 242)) := by kernel_rfl
theorem Zkp (W0 : World) : nsIn (KW W0) mainGlobals (S "Match") = some (some (.ref 135)) := by kernel_rfl
noncomputable def fdDeed : FuncData := fnD (topS PW 7) (S "_law_deed") .none .none 0 (.str (S "law_dm0058_12") 583) none (.ref 250) .none []
theorem Zqb (W0 : World) : (KW W0).lookup 251 = some ⟨.type "function", none, .func fdDeed, #[]⟩ := rfl
theorem Zqg (W0 : World) : nsIn (KW W0) mainGlobals (S "_law_deed") = some (some (.ref 251)) := by kernel_rfl
noncomputable def fdRead : FuncData := fnD (topS PW 8) (S "_law_read") .none .none 0 (.str (S "law_dm0058_12") 583) none (.ref 255) .none []
theorem Zp9 (W0 : World) : (KW W0).lookup 256 = some ⟨.type "function", none, .func fdRead, #[]⟩ := rfl
theorem Zqf (W0 : World) : nsIn (KW W0) mainGlobals (S "_law_read") = some (some (.ref 256)) := by kernel_rfl
noncomputable def fdLaw : FuncData := fnD (topS PW 9) (S "law") .none .none 0 (.str (S "law_dm0058_12") 583) none (.ref 260) .none []
theorem kLaw (W0 : World) : (KW W0).lookup 261 = some ⟨.type "function", none, .func fdLaw, #[]⟩ := rfl
noncomputable def Zqn : FuncData := fnD (inS (topS PW 3) 4) (S "Match.__new__") .none .none 283 (.str (S "cpy313.difflib") 194) none (.ref 81) .none []
theorem Zrs (W0 : World) : (KW W0).lookup 82 = some ⟨.type "function", none, .func Zqn, #[]⟩ := rfl
noncomputable def Zox : FuncData := fnD (inS (topS PW 3) 5) (S "Match._make") .none .none 293 (.str (S "cpy313.difflib") 194) (some 92) (.ref 88) .none []
theorem Zqa (W0 : World) : (KW W0).lookup 89 = some ⟨.type "function", none, .func Zox, #[]⟩ := rfl
theorem Zm5 : bootBuiltins (PySem.Str.ofString "list") = some (.type "list") := by boot_fast
theorem Zom (W0 : World) : nsIn (KW W0) mainGlobals (S "list") = some none := by kernel_rfl
theorem Zo4 : bootBuiltins (PySem.Str.ofString "map") = some (.type "map") := by boot_fast
theorem Zp0 (W0 : World) : nsIn (KW W0) mainGlobals (S "map") = some none := by kernel_rfl
theorem Zgi : bootBuiltins (PySem.Str.ofString "tuple") = some (.type "tuple") := by boot_fast
theorem Zhy (W0 : World) : nsIn (KW W0) mainGlobals (S "tuple") = some none := by kernel_rfl
theorem Zgm {h : Heap} {a b c : AV} {vs : List Value} (x : VRs h [a, b, c] vs) : ∃ u v W0, vs = [u, v, W0] ∧ VR h a u ∧ VR h b v ∧ VR h c W0 := by
  simp only [VRs] at x; obtain ⟨v, r, rfl, h1, u, r', rfl, h2, z, r'', rfl, h3, rfl⟩ := x; exact ⟨_, _, _, rfl, h1, h2, h3⟩
theorem Zm7 {h : Heap} {a b c d : AV} {vs : List Value} (x : VRs h [a, b, c, d] vs) : ∃ u v W0 z, vs = [u, v, W0, z] ∧ VR h a u ∧ VR h b v ∧ VR h c W0 ∧ VR h d z := by
  simp only [VRs] at x; obtain ⟨v, r, rfl, h1, u, r', rfl, h2, z, r'', rfl, h3, y, r''', rfl, h4, rfl⟩ := x; exact ⟨_, _, _, _, rfl, h1, h2, h3, h4⟩
section
variable {A : Around} {env : Env} {m : Loc} {hp : Hp}
theorem Zbp {x dx : Addr} {ma : Loc} {name : PySem.Str} {u : AV} {p1 p2 : Pos} {Q : AV → Hp → Prop} (G : Gnd (KW W0) B0) (hm : m (S "self") = some (.ref x)) (I : Ins hp env.locals x dx 242 ma) (ha : ma name = some u) (h : Q u hp) (hin : name ∈ attrNames := by decide) (hu : ∀ n, u ≠ .bi n := by intro _ e; cases e)
    (hk : env.scope.kind = .function := by rfl) (hl : env.kindOf (S "self") = some .local := by rfl) : EV (model PW W0) B0 E0 A env (.Attribute (.Name (S "self") p1) name p2) m hp Q :=
  Zpb G (clsS W0) (Zp1 W0 hin) (Zaa hm ⟨x, dx, ma, u, rfl, I, ha, hu, h⟩ hk hl)
theorem Za5 {x dx : Addr} {ma : Loc} {name : PySem.Str} {u : AV} {p1 p2 : Pos} {Q : Loc → Hp → Prop} (G : Gnd (KW W0) B0) (hm : m (S "self") = some (.ref x)) (I : Ins hp env.locals x dx 242 ma) (h : Q m (hp.set dx (.atr (upd ma name u)))) (hin : name ∈ attrNames := by decide)
    (hk : env.scope.kind = .function := by rfl) (hl : env.kindOf (S "self") = some .local := by rfl) : ASG (model PW W0) B0 E0 A env (.Attribute (.Name (S "self") p1) name p2) u m hp Q :=
  Znr G (clsS W0) (Zon W0 hin) hin (Zaa hm ⟨x, dx, ma, rfl, I, h⟩ hk hl)
end
noncomputable def Hp.cut (hp : Hp) (L1 L2 : Addr) : Hp := fun z => if z = L1 ∨ z = L2 then none else hp z
theorem Hp.cut_eq {hp : Hp} {L1 L2 z : Addr} (h1 : z ≠ L1) (h2 : z ≠ L2) : hp.cut L1 L2 z = hp z := by simp [Hp.cut, h1, h2]
theorem Zcr {env : Env} {m : Loc} {L : Addr} {Q : AV → Hp → Prop} {fl : AF} {m' : Loc} {hp' : Hp} (hl : hp' env.locals = some (.ns m)) (q : Q (Zfe fl) (hp'.cut env.locals L)) : RET L env m Q fl m' hp' := by
  refine ⟨hp'.cut env.locals L, fun z o hz => ?_, by simp [Hp.cut], q⟩
  by_cases h1 : z = env.locals
  · subst h1; rw [Hp.ss] at hz; rw [hl]; exact hz
  · rw [Hp.sn _ _ h1] at hz
    by_cases h2 : z = L
    · simp [Hp.cut, h2] at hz
    · rw [Hp.cut_eq h1 h2] at hz; exact hz
noncomputable def idxN (bs : List Int) (k : Int) : List Nat := (List.range bs.length).filter (fun i => bs[i]? == some k)
noncomputable def idxs (bs : List Int) (k : Int) : List AV := (idxN bs k).map fun (i : Nat) => AV.int (i : Int)
theorem Zee (bs : List Int) (x k : Int) : idxN (bs ++ [x]) k = idxN bs k ++ (if x = k then [bs.length] else []) := by
  unfold idxN
  rw [List.length_append, List.length_singleton, List.range_succ, List.filter_append]
  congr 1
  · apply List.filter_congr
    intro i hi
    rw [List.mem_range] at hi
    rw [List.getElem?_append_left hi]
  · by_cases h : x = k
    · simp [h]
    · simp [h]
theorem idxs_snoc (bs : List Int) (x k : Int) : idxs (bs ++ [x]) k = idxs bs k ++ (if x = k then [.int bs.length] else []) := by
  unfold idxs; rw [Zee, List.map_append]; split <;> simp
theorem Zh3 (bs : List Int) (k : Int) : (idxN bs k).length ≤ bs.length := by
  unfold idxN; exact Nat.le_trans (List.length_filter_le _ _) (by simp)
structure B2J (hb hp : Hp) (L d : Addr) (kvs : List (Int × AV)) (bs : List Int) : Prop where
  di : hp d = some (.dict kvs)
  dL : d ≠ L
  no : ∀ k, dget kvs k = none → idxN bs k = []
  yes : ∀ k v, dget kvs k = some v → ∃ a, v = .ref a ∧ hp a = some (.list (idxs bs k)) ∧ a ≠ L ∧ hb a = none
  inj : ∀ k k' a, dget kvs k = some (.ref a) → dget kvs k' = some (.ref a) → k = k'
  len : kvs.length ≤ bs.length
theorem Zdh (kvs : List (Int × AV)) (k : Int) (v : AV) (k' : Int) (h : dget kvs k = none) : dget (kvs ++ [(k, v)]) k' = if k' = k then some v else dget kvs k' := by
  unfold dget at *
  rw [List.find?_append]
  by_cases e : k' = k
  · subst e
    have : kvs.find? (fun kv => decide (kv.1 = k')) = none := by
      cases hf : kvs.find? (fun kv => decide (kv.1 = k')) with
      | none => rfl
      | some x => rw [hf] at h; cases h
    rw [this]; simp
  · rw [if_neg e]
    cases hf : kvs.find? (fun kv => decide (kv.1 = k')) with
    | some x => rfl
    | none => simp [Ne.symm e]
theorem VRs.nil {h : Heap} : VRs h [] [] := by simp only [VRs]
theorem VRs.mk {h : Heap} {a : AV} {v : Value} {l : List AV} {r : List Value} (x : VR h a v) (y : VRs h l r) : VRs h (a :: l) (v :: r) := by simp only [VRs]; exact ⟨_, _, rfl, x, y⟩
theorem Zie {h : Heap} {a b c d e : AV} {vs : List Value} (x : VRs h [a, b, c, d, e] vs) : ∃ u v W0 z y, vs = [u, v, W0, z, y] ∧ VR h a u ∧ VR h b v ∧ VR h c W0 ∧ VR h d z ∧ VR h e y := by
  simp only [VRs] at x; obtain ⟨v, r, rfl, h1, u, r', rfl, h2, z, r'', rfl, h3, y, r''', rfl, h4, q, r4, rfl, h5, rfl⟩ := x; exact ⟨_, _, _, _, _, rfl, h1, h2, h3, h4, h5⟩
theorem if_t {X Y : Prop} (h : X) : if true = true then X else Y := h
theorem if_f {X Y : Prop} (h : Y) : if false = true then X else Y := by rw [if_neg Bool.false_ne_true]; exact h
theorem Zed {X Y : Prop} {b : Bool} (e : b = true) (h : X) : if b = true then X else Y := by rw [if_pos e]; exact h
theorem Zdd {X Y : Prop} {b : Bool} (e : b = false) (h : Y) : if b = true then X else Y := by subst e; exact if_f h
theorem Zcm {X Y p : Prop} [Decidable p] (c : p) (h : X) : if decide p = true then X else Y := Zed (decide_eq_true c) h
theorem Zch {X Y p : Prop} [Decidable p] (c : ¬ p) (h : Y) : if decide p = true then X else Y := Zdd (decide_eq_false c) h
noncomputable def Zkh : Stmt → List Stmt × List Stmt × Expr
  | .For t _ b e _ => (b, e, t)
  | .While t b e _ => (b, e, t)
  | .If t b e _ => (b, e, t)
  | .Assign _ v _ => ([], [], v)
  | _ => ([], [], .Name (S "") ⟨0, 0, 0, 0⟩)
noncomputable def kids (s : Stmt) : List Stmt := (Zkh s).1
noncomputable def kidE (s : Stmt) : List Stmt := (Zkh s).2.1
noncomputable def kidT (s : Stmt) : Expr := (Zkh s).2.2
theorem updO {ns : List String} {a y : String} {v : AV} {m : Loc} {r : Option AV} (hy : y ∉ ns) (h : m (S y) = r) (hm : a ∈ ns := by decide) : upd m (S a) v (S y) = r := by
  rw [ug, if_neg (fun e : y = a => hy (by rw [e]; exact hm))]; exact h
section
variable {A : Around} {env : Env} {m : Loc} {hp hb : Hp}
theorem Zi1 {L it en d : Addr} {kvs : List (Int × AV)} {bs : List Int} {x : Int} {o1 o2 : Obj} {m : Loc} {tp : Pos} {KK : AF → Loc → Hp → Prop} (G : Gnd (KW W0) B0) (hh : A.handled = none) (hd : m (S "b2j") = some (.ref d)) (R : B2J hb hp L d kvs bs) (hle : Hp.Le hb hp) (hbd0 : hb d = none) (hlen : bs.length ≤ 4000)
    (h1 : hp it = some (.obj o1)) (h2 : hp en = some (.obj o2)) (hK : ∀ m₄ hp₄, (∀ y, y ≠ "i" → y ≠ "elt" → y ≠ "indices" → m₄ (S y) = m (S y)) → hp₄ it = some (.obj o1) → hp₄ en = some (.obj o2) → Hp.Le hb hp₄ → (∃ kvs', B2J hb hp₄ L d kvs' (bs ++ [x])) → KK .next m₄ hp₄) :
    ASG (model PW W0) B0 (fun _ _ => False) A (callEnv Zc6 L 188) (kidT ((Zbm (mS 5)).getD 2 (.Pass tp))) (.tup [.int bs.length, .int x]) m hp fun m₃ hp₃ => EXs (model PW W0) B0 (fun _ _ => False) A (callEnv Zc6 L 188) (kids ((Zbm (mS 5)).getD 2 (.Pass tp))) m₃ hp₃ KK := by
  refine Zb5 hh rfl rfl rfl (Zan (Zak (Zan (Zak (Zaq ?_)))))
  try dsimp only
  generalize hm1 : upd (upd m _ _) _ _ = m1
  have g1 : m1 (S "i") = some (.int bs.length) := by subst hm1; (first | assumption | rfl)
  have g2 : m1 (S "elt") = some (.int x) := by subst hm1; (first | assumption | rfl)
  have g3 : m1 (S "b2j") = some (.ref d) := by subst hm1; (first | assumption | rfl)
  have g4 : ∀ y, y ≠ "i" → y ≠ "elt" → y ≠ "indices" → m1 (S y) = m (S y) := fun y a b c => by subst hm1; simp only [ug, a, b, if_false]
  clear hm1
  have hidl : (idxs bs x).length ≤ 4000 := by unfold idxs; rw [List.length_map]; exact Nat.le_trans (Zh3 _ _) hlen
  have hlk := R.len
  refine Zac (Zao (Zil F.slot_dict_setdefault F.type_dict_setdefault F.plainAttrs_dict (Zaa g3 ⟨d, rfl, Zkk R.di R.dL, Zab (Zaa g2 (Zab (Zbq (Zae ⟨sz rfl, fun e he heL => Zae ?_⟩))))⟩)))
  have hde : d ≠ e := Hp.ne_of R.di he
  have hdi : (hp.set e (.list [])) d = some (.dict kvs) := Hp.snt hde R.di
  have hebn : hb e = none := hle.none he
  have hie : it ≠ e := Hp.ne_of h1 he
  have hne : en ≠ e := Hp.ne_of h2 he
  have hid : it ≠ d := fun h => by rw [h, R.di] at h1; cases h1
  have hnd : en ≠ d := fun h => by rw [h, R.di] at h2; cases h2
  refine Zez G hdi R.dL (by lia) ?_
  cases hg : dget kvs x with
  | none =>
    rw [show ((none : Option AV).isSome) = false from rfl, if_neg Bool.false_ne_true]
    have hld : ((hp.set e (.list [])).set d (.dict (kvs ++ [(x, .ref e)]))) e = some (.list []) := Hp.snt (Ne.symm hde) (Hp.ss ..)
    refine Zac (Za3 (Zba (Zaa (v := .ref e) (by show upd m1 (S "indices") ((none : Option AV).getD (.ref e)) (S "indices") = _; simp only [ug, if_true]; rfl) ⟨e, _, rfl, hld, heL, ?_⟩)))
    refine Zab (Zaa (v := .int bs.length) (by first | assumption | rfl) (Zae ⟨_, _, rfl, hld, sz rfl, by simp, by simp, by simp, ?_⟩))
    refine Zag (hK _ _ (fun y a b c => by simp only [ug, c, if_false]; exact g4 y a b c) ?_ ?_ ?_ ⟨kvs ++ [(x, .ref e)], ?_⟩)
    · exact Hp.snt hie (Hp.snt hid (Hp.snt hie h1))
    · exact Hp.snt hne (Hp.snt hnd (Hp.snt hne h2))
    · have hbd : hb d = none := hbd0
      exact ((hle.set hebn _).set hbd _).set hebn _
    · have hne0 := R.no x hg
      refine ⟨Hp.snt hde (Hp.ss ..), R.dL, fun k hk => ?_, fun k v hk => ?_, fun k k' a hk hk' => ?_, by simp; omega⟩
      · rw [Zdh _ _ _ _ hg] at hk
        by_cases e' : k = x
        · rw [if_pos e'] at hk; cases hk
        · rw [if_neg e'] at hk
          rw [Zee, R.no k hk, if_neg (Ne.symm e')]; rfl
      · rw [Zdh _ _ _ _ hg] at hk
        by_cases e' : k = x
        · rw [if_pos e'] at hk; cases hk
          refine ⟨e, rfl, ?_, heL, hebn⟩
          rw [Hp.ss, e', idxs_snoc, if_pos rfl]
          unfold idxs; rw [hne0]; rfl
        · rw [if_neg e'] at hk
          obtain ⟨a, rfl, ha, haL, hba⟩ := R.yes k v hk
          have hae : a ≠ e := Hp.ne_of ha he
          have had : a ≠ d := fun h => by rw [h, R.di] at ha; cases ha
          refine ⟨a, rfl, ?_, haL, hba⟩
          rw [Hp.sn _ _ hae, Hp.sn _ _ had, Hp.sn _ _ hae, ha, idxs_snoc, if_neg (Ne.symm e')]; simp
      · rw [Zdh _ _ _ _ hg] at hk hk'
        by_cases e1 : k = x
        · by_cases e2 : k' = x
          · rw [e1, e2]
          · rw [if_pos e1] at hk; rw [if_neg e2] at hk'
            cases hk
            obtain ⟨a', ea, ha, _⟩ := R.yes k' _ hk'
            cases ea
            rw [he] at ha; cases ha
        · rw [if_neg e1] at hk
          by_cases e2 : k' = x
          · rw [if_pos e2] at hk'
            cases hk'
            obtain ⟨a', ea, ha, _⟩ := R.yes k _ hk
            cases ea
            rw [he] at ha; cases ha
          · rw [if_neg e2] at hk'
            exact R.inj k k' a hk hk'
  | some v =>
    obtain ⟨a, rfl, ha, haL, hba⟩ := R.yes x v hg
    rw [show ((some (AV.ref a)).isSome) = true from rfl, if_pos rfl]
    have hae : a ≠ e := Hp.ne_of ha he
    have had : a ≠ d := fun h => by rw [h, R.di] at ha; cases ha
    have hia : it ≠ a := fun h => by rw [h, ha] at h1; cases h1
    have hna : en ≠ a := fun h => by rw [h, ha] at h2; cases h2
    have hld : (hp.set e (.list [])) a = some (.list (idxs bs x)) := Hp.snt hae ha
    refine Zac (Za3 (Zba (Zaa (v := .ref a) (by show upd m1 (S "indices") ((some (AV.ref a)).getD (.ref e)) (S "indices") = _; simp only [ug, if_true]; rfl) ⟨a, _, rfl, hld, haL, ?_⟩)))
    refine Zab (Zaa (v := .int bs.length) (by first | assumption | rfl) (Zae ⟨_, _, rfl, hld, sz' (by (exact Nat.le_trans (by assumption) (by decide))), by simp, by simp, by simp, ?_⟩))
    refine Zag (hK _ _ (fun y a b c => by simp only [ug, c, if_false]; exact g4 y a b c) ?_ ?_ ?_ ⟨kvs, ?_⟩)
    · exact Hp.snt hia (Hp.snt hie h1)
    · exact Hp.snt hna (Hp.snt hne h2)
    · exact (hle.set hebn _).set hba _
    · refine ⟨Hp.snt (Ne.symm had) hdi, R.dL, fun k hk => ?_, fun k v hk => ?_, R.inj, by simp; lia⟩
      · have e' : k ≠ x := fun e => by rw [e, hg] at hk; cases hk
        rw [Zee, R.no k hk, if_neg (Ne.symm e')]; rfl
      · by_cases e' : k = x
        · subst e'
          rw [hg] at hk; cases hk
          refine ⟨a, rfl, ?_, haL, hba⟩
          rw [Hp.ss, idxs_snoc, if_pos rfl]
        · obtain ⟨c, rfl, hc, hcL, hbc⟩ := R.yes k v hk
          have hca : c ≠ a := fun h => e' (by rw [h] at hk; exact R.inj k x a hk hg)
          have hce : c ≠ e := Hp.ne_of hc he
          refine ⟨c, rfl, ?_, hcL, hbc⟩
          rw [Hp.sn _ _ hca, Hp.sn _ _ hce, hc, idxs_snoc, if_neg (Ne.symm e')]; simp
end
noncomputable def hp0 : Hp := fun _ => none
theorem B2J.move {hb hp hp' : Hp} {L L' d : Addr} {kvs : List (Int × AV)} {bs : List Int} (R : B2J hb hp L d kvs bs) (h : ∀ z o, hb z = none → hp z = some o → (∀ m, o ≠ .ns m) → z ≠ L → hp' z = some o ∧ z ≠ L') (hd : hb d = none) : B2J hp0 hp' L' d kvs bs :=
  ⟨(h d _ hd R.di (by simp) R.dL).1, (h d _ hd R.di (by simp) R.dL).2, R.no, fun k v hk => by
    refine hide fun Gq kq => ?_
    obtain ⟨a, e, ha, haL, hba⟩ := R.yes k v hk
    refine kq ?_; clear kq Gq
    exact ⟨a, e, (h a _ hba ha (by simp) haL).1, (h a _ hba ha (by simp) haL).2, rfl⟩, R.inj, R.len⟩
theorem Hp.del_le (hp : Hp) (a : Addr) : Hp.Le (hp.del a) hp := fun z o e => by
  by_cases h : z = a
  · subst h; simp [Hp.del] at e
  · rw [Hp.del_ne _ h] at e; exact e
inductive Src (B0 : Shared) (hp : Hp) (L : Addr) : AV → List Int → Prop where
  | list {bA : Addr} {bs : List Int} (h : Lst B0 hp L bA (bs.map .int)) : Src B0 hp L (.ref bA) bs
  | emp : Src B0 hp L (.str (S "")) []
theorem Src.call {hp : Hp} {L L' : Addr} {m : Loc} {v : AV} {bs : List Int} (x : Src B0 hp L v bs) (h : hp L' = none) : Src B0 (hp.set L (.ns m)) L' v bs := by
  cases x with
  | list y => exact .list (y.call h)
  | emp => exact .emp
theorem Src.put {hp : Hp} {L b : Addr} {o : AO} {v : AV} {bs : List Int} (x : Src B0 hp L v bs) (h : ∀ ys, hp b ≠ some (.list ys)) : Src B0 (hp.set b o) L v bs := by
  cases x with
  | list y => exact .list (y.put h)
  | emp => exact .emp
theorem Src.le {hp hp' : Hp} {L : Addr} {v : AV} {bs : List Int} (x : Src B0 hp L v bs) (h : Hp.Le hp hp') : Src B0 hp' L v bs := by
  cases x with
  | list y => exact .list (y.le h)
  | emp => exact .emp
theorem Src.nbi {hp : Hp} {L : Addr} {v : AV} {bs : List Int} (x : Src B0 hp L v bs) : ∀ n, v ≠ .bi n := by
  cases x <;> (intro _ e; cases e)
section
variable {A : Around} {env : Env} {m : Loc} {hp : Hp}
theorem B2J.setz {hb hp : Hp} {L d z : Addr} {o : AO} {kvs : List (Int × AV)} {bs : List Int} (R : B2J hb hp L d kvs bs) (hd : d ≠ z) (ne : ∀ k v, dget kvs k = some v → v ≠ .ref z) : B2J hb (hp.set z o) L d kvs bs := ⟨Hp.snt hd R.di, R.dL, R.no, fun k v hk => by
  obtain ⟨a, rfl, ha, r⟩ := R.yes k v hk
  exact ⟨a, rfl, Hp.snt (fun e => ne k _ hk (by rw [e])) ha, r⟩, R.inj, R.len⟩
theorem B2J.delz {hb hp : Hp} {L d z : Addr} {kvs : List (Int × AV)} {bs : List Int} (R : B2J hb hp L d kvs bs) (hd : d ≠ z) (ne : ∀ k v, dget kvs k = some v → v ≠ .ref z) : B2J hb (hp.del z) L d kvs bs := ⟨by rw [Hp.del_ne _ hd]; exact R.di, R.dL, R.no, fun k v hk => by
  obtain ⟨a, rfl, ha, r⟩ := R.yes k v hk
  exact ⟨a, rfl, by rw [Hp.del_ne _ (fun e => ne k _ hk (by rw [e]))]; exact ha, r⟩, R.inj, R.len⟩
theorem Zhw {hp1 hpA : Hp} {L x dx C j : Addr} {ma ma' : Loc} {o : AO} (I : Ins hp1 L x dx C ma) (hj : hp1 j = none) (e : (hp1.set j o).set dx (.atr ma') = hpA) : Ins hpA L x dx C ma' ∧ hpA j = some o ∧ j ≠ dx ∧ ∀ z o', z ≠ dx → hp1 z = some o' → hpA z = some o' := by
  subst e
  have n := Ne.symm (Hp.ne_of I.at_ hj)
  exact ⟨(I.le ((Hp.Le.refl hp1).set hj o)).put, Hp.snt n (Hp.ss ..), n, fun z o' hz e => Hp.snt hz (Hp.snt (Hp.ne_of e hj) e)⟩
theorem Src.keep {hp hp' : Hp} {L : Addr} {v : AV} {bs : List Int} (x : Src B0 hp L v bs) (k : ∀ z ys, hp z = some (.list ys) → hp' z = some (.list ys)) : Src B0 hp' L v bs := by
  cases x with
  | list y =>
    rcases y with ⟨e, hh'⟩ | e
    · exact .list (.inl ⟨k _ _ e, hh'⟩)
    · exact .list (.inr e)
  | emp => exact .emp
theorem Zlx {v : AV} {bs : List Int} {Q : AV → Hp → Prop} (x : Src B0 hp env.locals v bs) (hlen : bs.length ≤ 4000) (hq : Q (.int bs.length) hp) : CL (model PW W0) B0 E0 A env (.builtin "len") m [v] hp Q := by
  cases x with
  | list y => exact Zcb y (by rw [List.length_map]; exact sz' (by (exact Nat.le_trans (by assumption) (by decide)))) (by rw [List.length_map]; exact hq)
  | emp => exact Zph (by decide) hq
noncomputable abbrev Ic (x d : Addr) (bv : AV) (hb : Hp) (L : Addr) (bs : List Int) (m' : Loc) (hp' : Hp) : Prop := m' (S "self") = some (.ref x) ∧ m' (S "b") = some bv ∧ Hp.Le hb hp' ∧ (∃ kvs, B2J hb hp' L d kvs bs) ∧ m' (S "b2j") = some (.ref d)
theorem Zi2 {L x d : Addr} {bv : AV} {bs : List Int} {hb1 : Hp} {KK : AF → Loc → Hp → Prop} (G : Gnd (KW W0) B0) (hh : A.handled = none) (hl1 : Src B0 hb1 L bv bs) (hbd : hb1 d = none) (hdL : d ≠ L) (hlen : bs.length ≤ 4000)
    (f1 : m (S "self") = some (.ref x)) (f2 : m (S "b") = some bv) (f3 : m (S "b2j") = some (.ref d)) (hK : ∀ m' hp', Ic x d bv hb1 L bs m' hp' → KK .next m' hp') :
    EX (model PW W0) B0 (fun _ _ => False) A (callEnv Zc6 L 188) ((Zbm (mS 5)).getD 2 (.Pass ⟨0, 0, 0, 0⟩)) m (hb1.set d (.dict [])) KK := by
  cases hl1 with
  | @list bA _ hl1' =>
    refine Zjh hh (Zay G (Zj4 W0) Zic (by decide) (fun _ => Zdl) ⟨rfl, Zab (Zaa (v := .ref bA) (by first | assumption | rfl) (Zae ⟨bA, bs.map .int, rfl, hl1'.le ((Hp.Le.refl _).set hbd _), fun it en hit hitL hen henL hne => ?_⟩))⟩)
    have hib : hb1 it = none := ((Hp.Le.refl hb1).set hbd _).none hit
    have heb : hb1 en = none := ((Hp.Le.refl hb1).set hbd _).none hen
    have hdi : d ≠ it := Hp.ne_of (Hp.ss ..) hit
    have hden : d ≠ en := Hp.ne_of (Hp.ss ..) hen
    let Iq : Nat → Loc → Hp → Prop := fun i m₂ hp₂ => m₂ (S "self") = some (.ref x) ∧ m₂ (S "b") = some (.ref bA) ∧ m₂ (S "b2j") = some (.ref d) ∧ Hp.Le hb1 hp₂ ∧ ∃ kvs, B2J hb1 hp₂ L d kvs (bs.take i) ∧ (∀ k v, dget kvs k = some v → v ≠ .ref it ∧ v ≠ .ref en)
    refine ⟨Iq, fun o1 o2 => ?_, fun i m₂ hp₂ ob x => ?_, fun i m₂ hp₂ ob x => ?_, fun i m₂ hp₂ x => hl1'.le x.2.2.2.1, fun i y m₂ hp₂ o1 o2 hy x h1 h2 => ?_, fun m₂ hp₂ x => ?_⟩
    · refine ⟨by first | assumption | rfl, by first | assumption | rfl, by first | assumption | rfl, (((Hp.Le.refl _).set hbd _).set hib _).set heb _, [], ⟨?_, hdL, fun k _ => rfl, fun k v hk => (by cases hk), fun k k' a hk => (by cases hk), Nat.le_refl _⟩, fun k v hk => (by cases hk)⟩
      exact Hp.snt hden (Hp.snt hdi (Hp.ss ..))
    · refine hide fun Gq kq => ?_
      obtain ⟨x1, x2, x3, x4, kvs, R, hne'⟩ := x
      refine kq ?_; clear kq Gq
      exact ⟨x1, x2, x3, x4.set hib _, kvs, R.setz hdi fun k v hk => (hne' k v hk).1, hne'⟩
    · refine hide fun Gq kq => ?_
      obtain ⟨x1, x2, x3, x4, kvs, R, hne'⟩ := x
      refine kq ?_; clear kq Gq
      exact ⟨x1, x2, x3, x4.set heb _, kvs, R.setz hden fun k v hk => (hne' k v hk).2, hne'⟩
    · refine hide fun Gq kq => ?_
      obtain ⟨x1, x2, x3, x4, kvs, R, hne'⟩ := x
      obtain ⟨v, hbk, rfl⟩ : ∃ v, bs[i]? = some v ∧ AV.int v = y := by
        rw [List.getElem?_map] at hy
        exact Option.map_eq_some_iff.mp hy
      refine kq ?_; clear kq Gq
      have hil : i < bs.length := (List.getElem?_eq_some_iff.mp hbk).1
      have hti : (bs.take i).length = i := by rw [List.length_take]; lia
      have etake : bs.take (i + 1) = bs.take i ++ [v] := by rw [List.take_add_one, hbk]; rfl
      rw [show (AV.tup [.int i, .int v]) = .tup [.int (bs.take i).length, .int v] from by rw [hti]]
      refine Zi1 (x := v) (tp := ⟨0, 0, 0, 0⟩) G hh x3 R x4 hbd (by lia) h1 h2 fun m4 hp4 hmm q1 q2 q3 yq => ?_
      refine hide fun Gq kq => ?_
      obtain ⟨kvs', R'⟩ := yq
      refine kq ?_; clear kq Gq
      refine ⟨⟨by rw [hmm _ (by decide) (by decide) (by decide)]; exact x1, by rw [hmm _ (by decide) (by decide) (by decide)]; exact x2, by rw [hmm _ (by decide) (by decide) (by decide)]; exact x3, q3, kvs', by rw [etake]; exact R', fun k u hk => ?_⟩, q1, q2⟩
      refine hide fun Gq kq => ?_
      obtain ⟨a, rfl, ha, _, _⟩ := R'.yes k u hk
      refine kq ?_; clear kq Gq
      exact ⟨fun e => (by cases e; rw [q1] at ha; cases ha), fun e => (by cases e; rw [q2] at ha; cases ha)⟩
    · refine hide fun Gq kq => ?_
      obtain ⟨x1, x2, x3, x4, kvs, R, hne'⟩ := x
      refine kq ?_; clear kq Gq
      rw [List.length_map, List.take_length] at R
      exact hK _ _ ⟨x1, x2, x4.del hib, ⟨kvs, R.delz hdi fun k v hk => (hne' k v hk).1⟩, x3⟩
  | emp =>
    refine Zgw hh (Zay G (Zj4 W0) Zic (by decide) (fun _ => Zdl) ⟨rfl, Zab (Zaa (v := .str (S "")) (by first | assumption | rfl) (Zae ⟨rfl, ?_⟩))⟩)
    exact hK _ _ ⟨by first | assumption | rfl, by first | assumption | rfl, (Hp.Le.refl _).set hbd _, ⟨[], Hp.ss .., hdL, fun k _ => rfl, fun k v hk => (by cases hk), fun k k' a hk => (by cases hk), Nat.le_refl _⟩, by first | assumption | rfl⟩
theorem Zk1 {L x dx d p : Addr} {ma : Loc} {kvs : List (Int × AV)} {bs : List Int} {aj : Bool} {KK : AF → Loc → Hp → Prop} (G : Gnd (KW W0) B0) (hh : A.handled = none) (hn : aj = false ∨ bs.length < 200 ∨ ∀ k, (idxN bs k).length ≤ bs.length / 100 + 1)
    (I : Ins hp L x dx 242 ma) (ha : ma (S "autojunk") = some (.bool aj)) (f1 : m (S "self") = some (.ref x)) (f2 : m (S "n") = some (.int bs.length)) (f3 : m (S "b2j") = some (.ref d)) (f4 : m (S "popular") = some (.ref p))
    (hpp : hp p = some (.set (fun _ => false) 0)) (hpL : p ≠ L) (hd4 : hp d = some (.dict kvs)) (hdL : d ≠ L) (hlen : bs.length ≤ 4000) (hlist : ∀ k v, dget kvs k = some v → ∃ a, v = .ref a ∧ hp a = some (.list (idxs bs k)) ∧ a ≠ L) (hK : ∀ m' hp', Hp.Le hp hp' → KK .next m' hp') :
    EX (model PW W0) B0 (fun _ _ => False) A (callEnv Zc6 L 188) ((Zbm (mS 5)).getD 8 (.Pass ⟨0, 0, 0, 0⟩)) m hp KK := by
  refine Za4 ?_
  refine Zaz ?_
  refine Zai ?_
  refine Za9 ?_
  refine Zbp G f1 I ha ?_
  refine Zaf ?_
  cases aj with
  | false =>
    refine if_f (if_f ?_)
    exact Zag (hK _ _ (.refl _))
  | true =>
    refine if_t ?_
    refine Zai ?_
    refine Zad ?_
    refine Zaa (by first | assumption | rfl) ?_
    refine Zaj ?_
    refine Znc ?_
    refine Zaf ?_
    by_cases hlt : bs.length < 200
    · refine Zdd (show decide ((bs.length : Int) ≥ 200) = false from by simp; (exact Int.ofNat_lt.mpr (by assumption))) (if_f ?_)
      exact Zag (hK _ _ (.refl _))
    · refine Zed (show decide ((bs.length : Int) ≥ 200) = true from by simp; lia) ?_
      refine Za2 ?_
      refine if_t ?_
      have hpop : ∀ k, (idxN bs k).length ≤ bs.length / 100 + 1 := by
        rcases hn with h | h | h
        · cases h
        · exact absurd h hlt
        · exact h
      refine Zac (Zao (Zah (Zah (Zaa (v := .int bs.length) (by first | assumption | rfl) (Zaj (Zb3 (by decide) (by decide) (Zaj (Zat ?_))))))))
      have hnt : ((bs.length : Int).fdiv 100 + 1) = ((bs.length / 100 + 1 : Nat) : Int) := by
        rw [Int.fdiv_eq_ediv_of_nonneg _ (by decide)]; push_cast; rfl
      rw [hnt]
      try dsimp only
      generalize hm5 : upd m (S "ntest") _ = m5
      have k1 : m5 (S "b2j") = some (.ref d) := by subst hm5; (first | assumption | rfl)
      have k2 : m5 (S "ntest") = some (.int ((bs.length / 100 + 1 : Nat) : Int)) := by subst hm5; (first | assumption | rfl)
      have k3 : m5 (S "popular") = some (.ref p) := by subst hm5; (first | assumption | rfl)
      clear hm5
      refine Zac (Zhm G hh (Zaa k1 ⟨d, kvs, rfl, hd4, hdL, fun vw it od hvw hvL hvd hit hiL hid hiv => ?_⟩))
      have hit4 : hp it = none := hit
      let Iq : Nat → Loc → Hp → Prop := fun i m₂ hp₂ => m₂ (S "ntest") = some (.int ((bs.length / 100 + 1 : Nat) : Int)) ∧ m₂ (S "popular") = some (.ref p) ∧ hp₂ d = some (.obj od) ∧ ∀ z o, z ≠ d → hp z = some o → hp₂ z = some o
      refine ⟨Iq, fun ob => ?_, fun i m₂ hp₂ ob x => ?_, fun i m₂ hp₂ x => x.2.2.1, fun i k v m₂ hp₂ ob hkv hdg x hob => ?_, fun m₂ hp₂ x => ?_⟩
      · refine ⟨k2, k3, Hp.snt (Ne.symm hid) (Hp.ss ..), fun z o hz e => ?_⟩
        exact Hp.snt (Hp.ne_of e hit) (Hp.snt hz (Hp.snt (Hp.ne_of e hvw) e))
      · refine hide fun Gq kq => ?_
        obtain ⟨x1, x2, x3, x4⟩ := x
        refine kq ?_; clear kq Gq
        exact ⟨x1, x2, Hp.snt (Ne.symm hid) x3, fun z o hz e => Hp.snt (Hp.ne_of e hit) (x4 z o hz e)⟩
      · refine hide fun Gq kq => ?_
        obtain ⟨x1, x2, x3, x4⟩ := x
        obtain ⟨a, rfl, ha, haL⟩ := hlist k v hdg
        refine kq ?_; clear kq Gq
        have had : a ≠ d := fun e => by rw [e, hd4] at ha; cases ha
        refine Zb5 hh rfl rfl rfl (Zan (Zak (Zan (Zak (Zaq ?_)))))
        refine Zcp fun KT hT => ?_
        have hil : (idxs bs k).length ≤ bs.length / 100 + 1 := by unfold idxs; rw [List.length_map]; exact hpop k
        refine Zac (Za4 (Zad (Za1 (Zay G (Zbz W0) Zbj (by decide) (fun _ => Zct) ⟨rfl, Zab (Zaa (v := .ref a) (by first | assumption | rfl) (Zae (Zcb (.own (x4 _ _ had ha) haL) (sz' (by lia)) ?_)))⟩))))
        refine Zaa (v := .int ((bs.length / 100 + 1 : Nat) : Int)) (by first | assumption | rfl) (Zi4 (Zaf ?_))
        refine Zch (by lia) ?_
        exact Zag (Zag (hT _ _ _ ⟨.inl rfl, ⟨by first | assumption | rfl, by first | assumption | rfl, x3, x4⟩, hob⟩))
      · refine hide fun Gq kq => ?_
        obtain ⟨x1, x2, x3, x4⟩ := x
        refine kq ?_; clear kq Gq
        have l5 : Hp.Le hp ((hp₂.set d (.dict kvs)).del it) := fun z o e => by
          have hzi : z ≠ it := Hp.ne_of e hit4
          rw [Hp.del_ne _ hzi]
          by_cases hz : z = d
          · subst hz; rw [Hp.ss]; rw [hd4] at e; exact e
          · exact Hp.snt hz (x4 z o hz e)
        have hpd : p ≠ d := fun e => by rw [e, hd4] at hpp; cases hpp
        refine Zac (Zjg hh (Zaa x2 ⟨p, _, rfl, l5 _ _ hpp, hpL, ?_⟩))
        exact Zag (hK _ _ l5)
theorem Znp {x dx : Addr} {bv : AV} {ma : Loc} {bs : List Int} {aj : Bool} {Q : AV → Hp → Prop} (G : Gnd (KW W0) B0) (hh : A.handled = none) (hroom : A.depth < recursionLimit) (I : Ins hp env.locals x dx 242 ma) (hb : ma (S "b") = some bv) (hl : Src B0 hp env.locals bv bs)
    (hj : ma (S "isjunk") = some .none) (ha : ma (S "autojunk") = some (.bool aj)) (hn : aj = false ∨ bs.length < 200 ∨ ∀ k, (idxN bs k).length ≤ bs.length / 100 + 1) (hlen : bs.length ≤ 4000)
    (h : ∀ hp' d j p kvs, Ins hp' env.locals x dx 242 (upd (upd (upd ma (S "b2j") (.ref d)) (S "bjunk") (.ref j)) (S "bpopular") (.ref p)) → B2J hp0 hp' env.locals d kvs bs → hp' j = some (.set (fun _ => false) 0) → j ≠ env.locals → (∀ z o, z ≠ dx → z ≠ env.locals → hp z = some o → hp' z = some o) → hp' env.locals = none → Q .none hp') :
    CL (model PW W0) B0 E0 A env (.ref 188) m [.ref x] hp Q := by
  refine CD.cl (Ze0 (bs := [(S "self", .ref x)]) (body := Zbm (mS 5)) G (Zqd W0) (by kernel_rfl) rfl hroom (fun s vs hv _ => ?_) (by kernel_rfl) (by decide) (fun L hL hLe => ?_))
  · refine hide fun Gq kq => ?_
    obtain ⟨v, rfl, h1⟩ := Zbo hv
    refine kq ?_; clear kq Gq
    exact ⟨[(S "self", v)], BindsTo.of_eq rfl, rfl, VRs.one h1⟩
  · have hl' : Src B0 (hp.set env.locals (.ns m)) L bv bs := hl.call hL
    have I' : Ins (hp.set env.locals (.ns m)) L x dx 242 ma := I.call hL
    have g0 : Za0 [(S "self", AV.ref x)] (S "self") = some (.ref x) := rfl
    generalize hm0 : Za0 [(S "self", AV.ref x)] = m0 at *
    have hLc : (hp.set env.locals (.ns m)) L = none := Hp.snt hLe hL
    have hcl : (hp.set env.locals (.ns m)) env.locals = some (.ns m) := Hp.ss ..
    have hback : ∀ z o, z ≠ env.locals → hp z = some o → (hp.set env.locals (.ns m)) z = some o := fun z o hz e => Hp.snt hz e
    generalize hp.set env.locals (.ns m) = hpc at *
    have hdl : ∀ ys, hpc dx ≠ some (.list ys) := fun ys e => by rw [I'.at_] at e; cases e
    have hdE : dx ≠ env.locals := I.dL
    refine Zac (Zao (Zbp G g0 I' hb ?_ (hu := hl.nbi)))
    refine Zac (Zbb (Zfz fun d hd hdL => Za5 G (by first | assumption | rfl) (I'.le ((Hp.Le.refl _).set hd _)) (Zak ?_)))
    have hddx : d ≠ dx := Ne.symm (Hp.ne_of I'.at_ hd)
    have e1 : (hpc.set d (.dict [])).set dx (.atr (upd ma (S "b2j") (.ref d))) = (hpc.set dx (.atr (upd ma (S "b2j") (.ref d)))).set d (.dict []) := Hp.sc _ _ _ hddx
    rw [e1]
    have I1 : Ins (hpc.set dx (.atr (upd ma (S "b2j") (.ref d)))) L x dx 242 (upd ma (S "b2j") (.ref d)) := I'.put
    have hl1 : Src B0 (hpc.set dx (.atr (upd ma (S "b2j") (.ref d)))) L bv bs := hl'.put hdl
    have hbd : (hpc.set dx (.atr (upd ma (S "b2j") (.ref d)))) d = none := Hp.snt hddx hd
    have hle0 : Hp.Le (hpc.del dx) (hpc.set dx (.atr (upd ma (S "b2j") (.ref d)))) := fun z o e => by
      have hz : z ≠ dx := fun h => by subst h; simp [Hp.del] at e
      rw [Hp.del_ne _ hz] at e; rw [Hp.sn _ _ hz]; exact e
    have hbn : ∀ z, (hpc.set dx (.atr (upd ma (S "b2j") (.ref d)))) z = none → z ≠ dx ∧ z ≠ env.locals := fun z hz => ⟨fun e => (by rw [e, Hp.ss] at hz; cases hz), fun e => (by rw [e, Hp.sn _ _ (Ne.symm hdE), hcl] at hz; cases hz)⟩
    generalize hpc.set dx (.atr (upd ma (S "b2j") (.ref d))) = hb1 at *
    refine Zln (Ic x d bv hb1 L bs) (Zi2 G hh hl1 hbd hdL hlen (by first | assumption | rfl) (by first | assumption | rfl) (by first | assumption | rfl) fun _ _ x => ⟨rfl, x⟩) ?_
    rintro m1 hp1 ⟨f1, f2, f3, ⟨kvs, R⟩, f4⟩
    have I2 := I1.le f3
    refine Zac (Zbb (Zlq (Zay G (Znt W0) Zk3 (by decide) (fun _ => Zdl) ⟨rfl, fun j hj' hjL => Za5 G f1 (I2.le ((Hp.Le.refl _).set hj' _)) (Zak ?_)⟩)))
    generalize hA2 : (hp1.set j (.set (fun _ => false) 0)).set dx (.atr (upd (upd ma (S "b2j") (.ref d)) (S "bjunk") (.ref j))) = hpA
    obtain ⟨I3, hjA, _, kA⟩ := Zhw I2 hj' hA2
    clear hA2
    refine Zac (Zao (Zbp G (by first | assumption | rfl) I3 (by first | assumption | rfl) ?_))
    refine Zac ?_
    refine Za4 ?_
    refine Za9 ?_
    refine Zaa (by first | assumption | rfl) ?_
    refine Zm8 ?_
    refine if_f ?_
    refine Zag ?_
    refine Zac (Zbb (Zlq (Zay G (Znt W0) Zk3 (by decide) (fun _ => Zdl) ⟨rfl, fun p hp' hpL => Za5 G (by first | assumption | rfl) (I3.le ((Hp.Le.refl _).set hp' _)) (Zak ?_)⟩)))
    generalize hB2 : (hpA.set p (.set (fun _ => false) 0)).set dx (.atr (upd (upd (upd ma (S "b2j") (.ref d)) (S "bjunk") (.ref j)) (S "bpopular") (.ref p))) = hp4
    obtain ⟨I4, hp4p, hpdx, kB⟩ := Zhw I3 hp' hB2
    clear hB2
    have hjdx : j ≠ dx := Ne.symm (Hp.ne_of I2.at_ hj')
    have hkeep : ∀ z o, z ≠ dx → hp1 z = some o → hp4 z = some o := fun z o hz e => kB _ _ hz (kA _ _ hz e)
    have hj4 : hp4 j = some (.set (fun _ => false) 0) := kB _ _ hjdx hjA
    clear kA kB hjA hp'
    have hl4 : Src B0 hp4 L bv bs := (hl1.le f3).keep fun z ys e => hkeep _ _ (fun h => by rw [h, I2.at_] at e; cases e) e
    refine Zac (Zao (Za1 (Zay G (Zbz W0) Zbj (by decide) (fun _ => Zct) ⟨rfl, Zab (Zaa (v := bv) (by first | assumption | rfl) (Zae (Zlx hl4 hlen ?_)))⟩)))
    have fin : ∀ m5 hp5, Hp.Le hp4 hp5 → EXs (model PW W0) B0 (fun _ _ => False) (A.deeper (callEnv Zc6 L 188)) (callEnv Zc6 L 188) [] m5 hp5 (RET L env m Q) := fun m5 hp5 l5 => by
      have hkeep5 : ∀ z o, z ≠ dx → hp1 z = some o → hp5 z = some o := fun z o hz e => l5 _ _ (hkeep z o hz e)
      refine Zag (Zcr (hkeep5 _ _ (Ne.symm hdE) (f3 _ _ (hle0 _ _ (by rw [Hp.del_ne _ (Ne.symm hdE)]; exact hcl)))) ?_)
      have hjE : j ≠ env.locals := fun e => by
        have := f3 _ _ (hle0 _ _ (show (hpc.del dx) env.locals = some (.ns m) by rw [Hp.del_ne _ (Ne.symm hdE)]; exact hcl))
        rw [← e, hj'] at this; cases this
      refine h _ d j p kvs ⟨?_, ?_, I.xL, I.dL⟩ (R.move (fun z o hz e _ hzL => ?_) hbd) ?_ hjE (fun z o hz hzE e => ?_) (by simp [Hp.cut])
      · rw [Hp.cut_eq I.xL I4.xL]; exact l5 _ _ I4.ob
      · rw [Hp.cut_eq I.dL I4.dL]; exact l5 _ _ I4.at_
      · have := hbn z hz
        exact ⟨by rw [Hp.cut_eq this.2 hzL]; exact hkeep5 _ _ this.1 e, this.2⟩
      · have hjL2 : j ≠ L := hjL
        rw [Hp.cut_eq hjE hjL2]; exact l5 _ _ hj4
      · have hc : hpc z = some o := hback z o hzE e
        rw [Hp.cut_eq hzE (Hp.ne_of hc hLc)]
        exact hkeep5 _ _ hz (f3 _ _ (hle0 _ _ (by rw [Hp.del_ne _ hz]; exact hc)))
    refine Zac (Zk1 (kvs := kvs) (bs := bs) (aj := aj) G hh hn I4 (by first | assumption | rfl) (by first | assumption | rfl) (by first | assumption | rfl) (by first | assumption | rfl) (by first | assumption | rfl) hp4p hpL (hkeep _ _ hddx R.di) R.dL hlen (fun k v hk => ?_) fin)
    obtain ⟨a, e, ha, haL, _⟩ := R.yes k v hk
    exact ⟨a, e, hkeep _ _ (fun e' => by rw [e', I2.at_] at ha; cases ha) ha, haL⟩
end
noncomputable def Zgl : List String := ["isjunk", "a", "b", "autojunk", "matching_blocks", "opcodes", "fullbcount", "b2j", "bjunk", "bpopular"]
structure JD (hp : Hp) (L d : Addr) (J : Int → List Nat) : Prop where
  ex : ∃ kvs, hp d = some (.dict kvs) ∧ d ≠ L ∧ (∀ k, dget kvs k = none → J k = []) ∧ ∀ k v, dget kvs k = some v → ∃ a, v = .ref a ∧ hp a = some (.list ((J k).map fun (i : Nat) => AV.int (i : Int))) ∧ a ≠ L
theorem B2J.jd {hp : Hp} {L d : Addr} {kvs : List (Int × AV)} {bs : List Int} (R : B2J hp0 hp L d kvs bs) : JD hp L d (idxN bs) := ⟨kvs, R.di, R.dL, R.no, fun k v hk => by obtain ⟨a, e, ha, haL, _⟩ := R.yes k v hk; exact ⟨a, e, ha, haL⟩⟩
theorem JD.le {hp hp' : Hp} {L d : Addr} {J : Int → List Nat} (R : JD hp L d J) (le : Hp.Le hp hp') : JD hp' L d J := by
  obtain ⟨kvs, h1, h2, h3, h4⟩ := R.ex
  exact ⟨kvs, le _ _ h1, h2, h3, fun k v hk => by obtain ⟨a, e, ha, haL⟩ := h4 k v hk; exact ⟨a, e, le _ _ ha, haL⟩⟩
theorem JD.move {hp hp' : Hp} {L L' d : Addr} {J : Int → List Nat} (R : JD hp L d J) (h : ∀ z o, hp z = some o → (∀ m, o ≠ .ns m) → z ≠ L → hp' z = some o ∧ z ≠ L') : JD hp' L' d J := by
  obtain ⟨kvs, h1, h2, h3, h4⟩ := R.ex
  have x := h _ _ h1 (by simp) h2
  refine ⟨kvs, x.1, x.2, h3, fun k v hk => ?_⟩
  obtain ⟨a, e, ha, haL⟩ := h4 k v hk
  have y := h _ _ ha (by simp) haL
  exact ⟨a, e, y.1, y.2⟩
theorem JD.put {hp : Hp} {L d c : Addr} {J : Int → List Nat} {o : AO} {ma : Loc} (R : JD hp L d J) (h : hp c = some (.atr ma)) : JD (hp.set c o) L d J := by
  refine hide fun Gq kq => ?_
  obtain ⟨kvs, h1, h2, h3, h4⟩ := R.ex
  refine kq ?_; clear kq Gq
  refine ⟨kvs, Hp.snt (fun e => by rw [e, h] at h1; cases h1) h1, h2, h3, fun k v hk => ?_⟩
  refine hide fun Gq kq => ?_
  obtain ⟨a, e, ha, haL⟩ := h4 k v hk
  refine kq ?_; clear kq Gq
  exact ⟨a, e, Hp.snt (fun e => by rw [e, h] at ha; cases ha) ha, haL⟩
noncomputable def PJ (bs : List Int) (aj : Bool) (k : Int) : List Nat := if aj = true ∧ 200 ≤ bs.length ∧ bs.length / 100 + 1 < (idxN bs k).length then [] else idxN bs k
theorem Zqs {bs : List Int} {aj : Bool} (hn : aj = false ∨ bs.length < 200 ∨ ∀ k, (idxN bs k).length ≤ bs.length / 100 + 1) : PJ bs aj = idxN bs := by
  funext k
  unfold PJ
  rw [if_neg]
  rintro ⟨h1, h2, h3⟩
  rcases hn with h | h | h
  · rw [h1] at h; cases h
  · lia
  · exact absurd (h k) (Nat.not_le.mpr h3)
theorem Zqr (bs : List Int) (aj : Bool) (k : Int) : (PJ bs aj k).length ≤ bs.length := by
  unfold PJ; split
  · simp
  · exact Zh3 _ _
theorem Zla (bs : List Int) (aj : Bool) (k : Int) : (PJ bs aj k).Pairwise (· < ·) := by
  unfold PJ; split
  · exact List.Pairwise.nil
  · exact List.Pairwise.filter _ List.pairwise_lt_range
structure SMg (ma : Loc) (a b : AV) (d j : Addr) (aj : Bool) (mb op : AV) : Prop where
  a : ma (S "a") = some a
  b : ma (S "b") = some b
  b2j : ma (S "b2j") = some (.ref d)
  bj : ma (S "bjunk") = some (.ref j)
  mb : ma (S "matching_blocks") = some mb
  op : ma (S "opcodes") = some op
  ij : ma (S "isjunk") = some .none
  aj : ma (S "autojunk") = some (.bool aj)
  no : ∀ y, y ∉ Zgl → ma (S y) = none
structure MT (hp : Hp) (L x dx : Addr) (a b : AV) (bs : List Int) (aj : Bool) (mb op : AV) : Prop where
  ex : ∃ ma d j, Ins hp L x dx 242 ma ∧ SMg ma a b d j aj mb op ∧ JD hp L d (PJ bs aj) ∧ hp j = some (.set (fun _ => false) 0) ∧ j ≠ L
theorem MT.xL {hp : Hp} {L x dx : Addr} {a b : AV} {bs : List Int} {aj : Bool} {mb op : AV} (M : MT hp L x dx a b bs aj mb op) : x ≠ L ∧ dx ≠ L ∧ x ≠ dx := by
  refine hide fun Gq kq => ?_
  obtain ⟨ma, d, j, I, _⟩ := M.ex
  refine kq ?_; clear kq Gq
  exact ⟨I.xL, I.dL, I.xd⟩
theorem MT.move {hp hp' : Hp} {L L' x dx : Addr} {a b : AV} {bs : List Int} {aj : Bool} {mb op : AV} (M : MT hp L x dx a b bs aj mb op) (h : ∀ z o, hp z = some o → (∀ m, o ≠ .ns m) → z ≠ L → hp' z = some o ∧ z ≠ L') : MT hp' L' x dx a b bs aj mb op := by
  refine hide fun Gq kq => ?_
  obtain ⟨ma, d, j, I, F, R, hj, hjL⟩ := M.ex
  refine kq ?_; clear kq Gq
  have x1 := h _ _ I.ob (by simp) I.xL
  have x2 := h _ _ I.at_ (by simp) I.dL
  have x3 := h _ _ hj (by simp) hjL
  exact ⟨ma, d, j, ⟨x1.1, x2.1, x1.2, x2.2⟩, F, R.move h, x3.1, x3.2⟩
theorem MT.le {hp hp' : Hp} {L x dx : Addr} {a b : AV} {bs : List Int} {aj : Bool} {mb op : AV} (M : MT hp L x dx a b bs aj mb op) (le : Hp.Le hp hp') : MT hp' L x dx a b bs aj mb op := M.move fun _ _ e _ e3 => ⟨le _ _ e, e3⟩
theorem MT.call {hp : Hp} {L L' x dx : Addr} {a b : AV} {bs : List Int} {aj : Bool} {mb op : AV} {m : Loc} (M : MT hp L x dx a b bs aj mb op) (h : hp L' = none) : MT (hp.set L (.ns m)) L' x dx a b bs aj mb op := M.move fun _ _ e _ e3 => ⟨Hp.snt e3 e, Hp.ne_of e h⟩
theorem MT.keep {hp : Hp} {L x dx : Addr} {a b : AV} {bs : List Int} {aj : Bool} {mb op : AV} (M : MT hp L x dx a b bs aj mb op) : ∃ ma, Ins hp L x dx 242 ma ∧ ma (S "matching_blocks") = some mb ∧ ma (S "opcodes") = some op ∧ (∀ y, y ∉ Zgl → ma (S y) = none) ∧ ma (S "a") = some a ∧ ma (S "b") = some b ∧
    (∀ mb', MT (hp.set dx (.atr (upd ma (S "matching_blocks") mb'))) L x dx a b bs aj mb' op) ∧ ∀ op', MT (hp.set dx (.atr (upd ma (S "opcodes") op'))) L x dx a b bs aj mb op' := by
  refine hide fun Gq kq => ?_
  obtain ⟨ma, d, j, I, F, R, hj, hjL⟩ := M.ex
  refine kq ?_; clear kq Gq
  have hj' : ∀ o, (hp.set dx o) j = some (.set (fun _ => false) 0) := fun o => Hp.snt (fun e => by rw [e, I.at_] at hj; cases hj) hj
  refine ⟨ma, I, F.mb, F.op, F.no, F.a, F.b, fun mb' => ⟨_, d, j, I.put, ⟨?_, ?_, ?_, ?_, ?_, ?_, ?_, ?_, fun y hy => ?_⟩, R.put I.at_, hj' _, hjL⟩, fun op' => ⟨_, d, j, I.put, ⟨?_, ?_, ?_, ?_, ?_, ?_, ?_, ?_, fun y hy => ?_⟩, R.put I.at_, hj' _, hjL⟩⟩
  · exact F.a
  · exact F.b
  · exact F.b2j
  · exact F.bj
  · simp only [ug, if_true]
  · exact F.op
  · exact F.ij
  · exact F.aj
  · rw [ug, if_neg (fun e => hy (by rw [e]; decide))]; exact F.no y hy
  · exact F.a
  · exact F.b
  · exact F.b2j
  · exact F.bj
  · exact F.mb
  · simp only [ug, if_true]
  · exact F.ij
  · exact F.aj
  · rw [ug, if_neg (fun e => hy (by rw [e]; decide))]; exact F.no y hy
noncomputable def NotIs (B0 : Shared) (hp : Hp) (L : Addr) (nv av : AV) : Prop := (av = .none ∧ nv.isNone = false) ∨ ∃ a, nv = .ref a ∧ Other B0 hp L a av
theorem Other.call {hp : Hp} {L L' a : Addr} {v : AV} {m : Loc} (x : Other B0 hp L a v) (h : hp L' = none) : Other B0 (hp.set L (.ns m)) L' a v := by
  rcases x with e | e | ⟨b, xs, ys, e, h1, h2, h3⟩
  · exact .inl e
  · exact .inr (.inl e)
  · exact .inr (.inr ⟨b, xs, ys, e, h1.call h, h2.call h, h3⟩)
theorem Other.put {hp : Hp} {L a c : Addr} {o : AO} {v : AV} (x : Other B0 hp L a v) (h : ∀ ys, hp c ≠ some (.list ys)) : Other B0 (hp.set c o) L a v := by
  rcases x with e | e | ⟨b, xs, ys, e, h1, h2, h3⟩
  · exact .inl e
  · exact .inr (.inl e)
  · exact .inr (.inr ⟨b, xs, ys, e, h1.put h, h2.put h, h3⟩)
theorem NotIs.call {hp : Hp} {L L' : Addr} {nv v : AV} {m : Loc} (x : NotIs B0 hp L nv v) (h : hp L' = none) : NotIs B0 (hp.set L (.ns m)) L' nv v := by
  rcases x with e | ⟨a, e, y⟩
  · exact .inl e
  · exact .inr ⟨a, e, y.call h⟩
theorem NotIs.put {hp : Hp} {L c : Addr} {o : AO} {nv v : AV} (x : NotIs B0 hp L nv v) (h : ∀ ys, hp c ≠ some (.list ys)) : NotIs B0 (hp.set c o) L nv v := by
  rcases x with e | ⟨a, e, y⟩
  · exact .inl e
  · exact .inr ⟨a, e, y.put h⟩
theorem NotIs.nbi {hp : Hp} {L : Addr} {nv v : AV} (x : NotIs B0 hp L nv v) : ∀ n, v ≠ .bi n := by
  rcases x with ⟨e, _⟩ | ⟨a, _, e | ⟨_, e⟩ | ⟨b, _, _, e, _⟩⟩ <;> (subst e; intro _ h; cases h)
section
variable {A : Around} {env : Env} {m : Loc} {hp : Hp}
theorem Zig {nv av : AV} {Q : AV → Hp → Prop} (x : NotIs B0 hp env.locals nv av) (h : Q (.bool false) hp) : OP2 (model PW W0) B0 E0 A env (compareOp .Is) m nv av hp Q := by
  rcases x with ⟨rfl, e⟩ | ⟨a, rfl, y⟩
  · exact Zdn (by rw [e]; exact h)
  · exact Zi3 y h
theorem Zpd {x dx : Addr} {nv av : AV} {ma : Loc} {Q : AV → Hp → Prop} (G : Gnd (KW W0) B0) (hroom : A.depth < recursionLimit) (I : Ins hp env.locals x dx 242 ma) (ha : ma (S "a") = some av) (hn : NotIs B0 hp env.locals nv av)
    (h : Q .none (hp.set dx (.atr (upd (upd (upd ma (S "a") nv) (S "matching_blocks") .none) (S "opcodes") .none)))) : CL (model PW W0) B0 E0 A env (.ref 174) m [.ref x, nv] hp Q := by
  refine CD.cl (Ze0 (bs := [(S "a", nv), (S "self", .ref x)]) (body := Zbm (mS 3)) G (Zrr W0) (by kernel_rfl) rfl hroom (fun s vs hv _ => ?_) (by kernel_rfl) (by decide) (fun L hL hLe => ?_))
  · obtain ⟨v, u, rfl, h1, h2⟩ := Zc7 hv
    exact ⟨[(S "self", v), (S "a", u)], BindsTo.of_eq rfl, rfl, .mk h2 (.mk h1 .nil)⟩
  · have I' : Ins (hp.set env.locals (.ns m)) L x dx 242 ma := I.call hL
    have g0 : Za0 [(S "a", nv), (S "self", AV.ref x)] (S "self") = some (.ref x) := rfl
    have g1 : Za0 [(S "a", nv), (S "self", AV.ref x)] (S "a") = some nv := rfl
    generalize hm0 : Za0 [(S "a", nv), (S "self", AV.ref x)] = m0 at *
    refine Zac (Zdo ?_)
    have hn' : NotIs B0 (hp.set env.locals (.ns m)) L nv av := hn.call hL
    refine Zac (Za4 (Zad (Zaa g1 (Zbp G g0 I' ha (Zig hn' (Zaf ?_)) (hu := hn.nbi)))))
    refine if_f ?_
    refine Zag (Zac ?_)
    refine Zb0 (Zaa g1 (Za5 G g0 I' ?_))
    have I1 := I'.put (ma' := upd ma (S "a") nv)
    refine Zac (Zbb (Zcv (Za5 G g0 I1 ?_)))
    rw [Hp.set_set]
    have I2 := I'.put (ma' := upd (upd ma (S "a") nv) (S "matching_blocks") .none)
    refine Za5 G g0 I2 ?_
    rw [Hp.set_set]
    refine Zag ?_
    exact Zoi hL I.dL I'.dL h
theorem Zpc {x dx : Addr} {nv av : AV} {ma : Loc} {bs : List Int} {aj : Bool} {Q : AV → Hp → Prop} (G : Gnd (KW W0) B0) (hh : A.handled = none) (hroom : A.depth + 1 < recursionLimit) (I : Ins hp env.locals x dx 242 ma) (hb : ma (S "b") = some av) (hni : NotIs B0 hp env.locals nv av) (hl : Src B0 hp env.locals nv bs)
    (hj : ma (S "isjunk") = some .none) (ha : ma (S "autojunk") = some (.bool aj)) (hc : ma (S "_SequenceMatcher__chain_b") = none) (hn : aj = false ∨ bs.length < 200 ∨ ∀ k, (idxN bs k).length ≤ bs.length / 100 + 1) (hlen : bs.length ≤ 4000)
    (h : ∀ hp' d j p kvs, Ins hp' env.locals x dx 242 (upd (upd (upd (upd (upd (upd (upd ma (S "b") nv) (S "matching_blocks") .none) (S "opcodes") .none) (S "fullbcount") .none) (S "b2j") (.ref d)) (S "bjunk") (.ref j)) (S "bpopular") (.ref p)) → B2J hp0 hp' env.locals d kvs bs → hp' j = some (.set (fun _ => false) 0) → j ≠ env.locals → (∀ z o, z ≠ dx → z ≠ env.locals → hp z = some o → hp' z = some o) → hp' env.locals = none → Q .none hp') :
    CL (model PW W0) B0 E0 A env (.ref 181) m [.ref x, nv] hp Q := by
  refine CD.cl (Ze0 (bs := [(S "b", nv), (S "self", .ref x)]) (body := Zbm (mS 4)) G (Zrq W0) (by kernel_rfl) rfl (by (exact Nat.lt_of_succ_lt (by assumption))) (fun s vs hv _ => ?_) (by kernel_rfl) (by decide) (fun L hL hLe => ?_))
  · obtain ⟨v, u, rfl, h1, h2⟩ := Zc7 hv
    exact ⟨[(S "self", v), (S "b", u)], BindsTo.of_eq rfl, rfl, .mk h2 (.mk h1 .nil)⟩
  · have I' : Ins (hp.set env.locals (.ns m)) L x dx 242 ma := I.call hL
    have hl' : Src B0 (hp.set env.locals (.ns m)) L nv bs := hl.call hL
    have hdl : ∀ ys, (hp.set env.locals (.ns m)) dx ≠ some (.list ys) := fun ys e => by rw [I'.at_] at e; cases e
    have g0 : Za0 [(S "b", nv), (S "self", AV.ref x)] (S "self") = some (.ref x) := rfl
    have g1 : Za0 [(S "b", nv), (S "self", AV.ref x)] (S "b") = some nv := rfl
    generalize hm0 : Za0 [(S "b", nv), (S "self", AV.ref x)] = m0 at *
    refine Zac (Zdo ?_)
    have hn' : NotIs B0 (hp.set env.locals (.ns m)) L nv av := hni.call hL
    refine Zac (Za4 (Zad (Zaa g1 (Zbp G g0 I' hb (Zig hn' (Zaf ?_)) (hu := hni.nbi)))))
    refine if_f ?_
    refine Zag (Zac ?_)
    refine Zb0 (Zaa g1 (Za5 G g0 I' ?_))
    have I1 := I'.put (ma' := upd ma (S "b") nv)
    refine Zac (Zbb (Zcv (Za5 G g0 I1 ?_)))
    rw [Hp.set_set]
    have I2 := I'.put (ma' := upd (upd ma (S "b") nv) (S "matching_blocks") .none)
    refine Za5 G g0 I2 ?_
    rw [Hp.set_set]
    have I3 := I'.put (ma' := upd (upd (upd ma (S "b") nv) (S "matching_blocks") .none) (S "opcodes") .none)
    refine Zac (Zb0 (Zcv (Za5 G g0 I3 ?_)))
    rw [Hp.set_set]
    have I4 := I'.put (ma' := upd (upd (upd (upd ma (S "b") nv) (S "matching_blocks") .none) (S "opcodes") .none) (S "fullbcount") .none)
    refine Zac (Za3 (Zfy G (clsS W0) (f := 188) (by kernel_rfl) (by kernel_rfl) (by kernel_rfl) (Zaa g0 ⟨x, dx, _, rfl, I4, ?_, ?_⟩)))
    · (first | assumption | rfl)
    refine Znp (A := A.deeper (callEnv Zny L 181)) G hh (by show A.depth + 1 < _; omega) I4 (by first | assumption | rfl) (hl'.put hdl) (by first | assumption | rfl) (by first | assumption | rfl) hn hlen fun hp' d j p kvs i1 i2 i3 i4 i5 i6 => ?_
    refine ⟨by simp, by simp, by simp, ?_⟩
    change j ≠ L at i4
    have keepz : ∀ z o, z ≠ dx → z ≠ L → (hp.set env.locals (.ns m)) z = some o → hp' z = some o := fun z o hz hzL e => i5 z o hz hzL (Hp.snt hz e)
    have hle : hp' env.locals = some (.ns m) := keepz _ _ (Ne.symm I.dL) (Ne.symm hLe) (Hp.ss ..)
    have hjE : j ≠ env.locals := fun e => by rw [e, hle] at i3; cases i3
    refine Zag (Zcr hle (h _ d j p kvs ⟨?_, ?_, I.xL, I.dL⟩ (i2.move (fun z o _ e hns hz => ?_) rfl) ?_ hjE (fun z o hz hzE e => ?_) (by simp [Hp.cut])))
    · rw [Hp.cut_eq I.xL (show x ≠ L from i1.xL)]; exact i1.ob
    · rw [Hp.cut_eq I.dL (show dx ≠ L from i1.dL)]; exact i1.at_
    · have hzE : z ≠ env.locals := fun h => by rw [h, hle] at e; cases e; exact hns _ rfl
      exact ⟨by rw [Hp.cut_eq hzE (show z ≠ L from hz)]; exact e, hzE⟩
    · rw [Hp.cut_eq hjE i4]; exact i3
    · have hzL : z ≠ L := Hp.ne_of e hL
      rw [Hp.cut_eq hzE hzL]
      exact keepz z o hz hzL (Hp.snt hzE e)
theorem Zlv {x dx : Addr} {av bv a0 b0 : AV} {ma : Loc} {bs : List Int} {aj : Bool} {Q : AV → Hp → Prop} (G : Gnd (KW W0) B0) (hh : A.handled = none) (hroom : A.depth + 2 < recursionLimit) (I : Ins hp env.locals x dx 242 ma) (ha : ma (S "a") = some a0) (hb : ma (S "b") = some b0) (na : NotIs B0 hp env.locals av a0) (nb : NotIs B0 hp env.locals bv b0) (hl : Src B0 hp env.locals bv bs)
    (hj : ma (S "isjunk") = some .none) (hau : ma (S "autojunk") = some (.bool aj)) (hno : ∀ y, y ∉ Zgl → ma (S y) = none) (hn : aj = false ∨ bs.length < 200 ∨ ∀ k, (idxN bs k).length ≤ bs.length / 100 + 1) (hlen : bs.length ≤ 4000)
    (h : ∀ hp', MT hp' env.locals x dx av bv bs aj .none .none → (∀ z o, z ≠ dx → z ≠ env.locals → hp z = some o → hp' z = some o) → hp' env.locals = none → Q .none hp') :
    CL (model PW W0) B0 E0 A env (.ref 167) m [.ref x, av, bv] hp Q := by
  refine CD.cl (Ze0 (bs := [(S "b", bv), (S "a", av), (S "self", .ref x)]) (body := Zbm (mS 2)) G (Zrp W0) (by kernel_rfl) rfl (by (exact ul0 (by assumption))) (fun s vs hv _ => ?_) (by kernel_rfl) (by decide) (fun L hL hLe => ?_))
  · refine hide fun Gq kq => ?_
    obtain ⟨v, u, z, rfl, h1, h2, h3⟩ := Zgm hv
    refine kq ?_; clear kq Gq
    exact ⟨[(S "self", v), (S "a", u), (S "b", z)], BindsTo.of_eq rfl, rfl, .mk h3 (.mk h2 (.mk h1 .nil))⟩
  · have I' : Ins (hp.set env.locals (.ns m)) L x dx 242 ma := I.call hL
    have hl' : Src B0 (hp.set env.locals (.ns m)) L bv bs := hl.call hL
    have hdl : ∀ ys, (hp.set env.locals (.ns m)) dx ≠ some (.list ys) := fun ys e => by rw [I'.at_] at e; cases e
    have g0 : Za0 [(S "b", bv), (S "a", av), (S "self", AV.ref x)] (S "self") = some (.ref x) := rfl
    have g1 : Za0 [(S "b", bv), (S "a", av), (S "self", AV.ref x)] (S "b") = some bv := rfl
    have g2 : Za0 [(S "b", bv), (S "a", av), (S "self", AV.ref x)] (S "a") = some av := rfl
    generalize hm0 : Za0 [(S "b", bv), (S "a", av), (S "self", AV.ref x)] = m0 at *
    have hc1 : ma (S "set_seq1") = none := hno _ (by decide)
    have hc2 : ma (S "set_seq2") = none := hno _ (by decide)
    have hc3 : ma (S "_SequenceMatcher__chain_b") = none := hno _ (by decide)
    refine Zac (Zdo ?_)
    refine Zac (Za3 (Zep G (clsS W0) (f := 174) (by kernel_rfl) (by kernel_rfl) (by kernel_rfl) (Zaa g0 ⟨x, dx, _, rfl, I', hc1, Zab (Zaa g2 (Zae ?_))⟩)))
    refine Zpd (A := A.deeper (callEnv Zkt L 167)) G (by show A.depth + 1 < _; (exact Nat.lt_of_succ_lt (by assumption))) I' ha (na.call hL) ?_
    refine ⟨by simp, by simp, by simp, ?_⟩
    have I1 := I'.put (ma' := upd (upd (upd ma (S "a") av) (S "matching_blocks") .none) (S "opcodes") .none)
    refine Zac (Za3 (Zep G (clsS W0) (f := 181) (by kernel_rfl) (by kernel_rfl) (by kernel_rfl) (Zaa g0 ⟨x, dx, _, rfl, I1, ?_, Zab (Zaa g1 (Zae ?_))⟩)))
    · (first | assumption | rfl)
    refine Zpc (A := A.deeper (callEnv Zkt L 167)) G hh (by show A.depth + 1 + 1 < _; omega) I1 (by first | assumption | rfl) ((nb.call hL).put hdl) (hl'.put hdl) (by first | assumption | rfl) (by first | assumption | rfl) (by first | assumption | rfl) hn hlen fun hp' d j p kvs i1 i2 i3 i4 i5 i6 => ?_
    refine ⟨by simp, by simp, by simp, ?_⟩
    change j ≠ L at i4
    have keepz : ∀ z o, z ≠ dx → z ≠ L → (hp.set env.locals (.ns m)) z = some o → hp' z = some o := fun z o hz hzL e => i5 z o hz hzL (Hp.snt hz e)
    have hle : hp' env.locals = some (.ns m) := keepz _ _ (Ne.symm I.dL) (Ne.symm hLe) (Hp.ss ..)
    have hjE : j ≠ env.locals := fun e => by rw [e, hle] at i3; cases i3
    have i1' := Ins.mk (hp := hp'.cut env.locals L) (L := env.locals) (by rw [Hp.cut_eq I.xL (show x ≠ L from i1.xL)]; exact i1.ob) (by rw [Hp.cut_eq I.dL (show dx ≠ L from i1.dL)]; exact i1.at_) I.xL I.dL
    refine Zag (Zcr hle (h _ ⟨_, d, j, i1', ⟨by first | assumption | rfl, by first | assumption | rfl, by first | assumption | rfl, by first | assumption | rfl, by first | assumption | rfl, by first | assumption | rfl, by first | assumption | rfl, by first | assumption | rfl, fun y hy => ?_⟩, by rw [Zqs hn]; exact (i2.move (fun z o _ e hns hz => ⟨by rw [Hp.cut_eq (fun h => by rw [h, hle] at e; cases e; exact hns _ rfl) (show z ≠ L from hz)]; exact e, fun h => by rw [h, hle] at e; cases e; exact hns _ rfl⟩) rfl).jd, ?_, hjE⟩ (fun z o hz hzE e => ?_) (by simp [Hp.cut])))
    · refine hide fun Gq kq => ?_
      have hy' := hy
      simp only [Zgl, List.mem_cons, List.not_mem_nil, or_false, not_or] at hy'
      obtain ⟨h1, h2, h3, h4, h5, h6, h7, h8, h9, h10⟩ := hy'
      refine kq ?_; clear kq Gq
      simp only [ug, h1, h2, h3, h4, h5, h6, h7, h8, h9, h10, if_false]
      exact hno y hy
    · rw [Hp.cut_eq hjE i4]; exact i3
    · have hzL : z ≠ L := Hp.ne_of e hL
      rw [Hp.cut_eq hzE hzL]
      exact keepz z o hz hzL (Hp.snt hzE e)
theorem Zq8 {av bv : AV} {avs : List AV} {bs : List Int} {aj : Bool} {Q : AV → Hp → Prop} (G : Gnd (KW W0) B0) (hh : A.handled = none) (hroom : A.depth + 5 < recursionLimit) (hav : av.isNone = false) (hl : Src B0 hp env.locals bv bs) (hn : aj = false ∨ bs.length < 200 ∨ ∀ k, (idxN bs k).length ≤ bs.length / 100 + 1) (hlen : bs.length ≤ 4000)
    (h : ∀ hp' x dx, hp x = none → hp dx = none → MT hp' env.locals x dx av bv bs aj .none .none → (∀ z o, z ≠ env.locals → hp z = some o → hp' z = some o) → hp' env.locals = none → Q (.ref x) hp')
    (hb : ∀ (x : Addr) (s : Shared) vs, VRs s.heap (.ref x :: avs) vs → (KW W0).In s.heap → ∃ us, BindsTo s Zku ⟨vs, []⟩ us ∧ us.reverse.map (·.1) = [S "autojunk", S "b", S "a", S "isjunk", S "self"] ∧ VRs s.heap [.bool aj, bv, av, .none, .ref x] (us.reverse.map (·.2))) :
    CL (model PW W0) B0 E0 A env (.ref 242) m avs hp Q := by
  refine Zpg G (Zp6 W0) (fI := 160) (by kernel_rfl) (by kernel_rfl) fun x dx vs' hx hdx hxd hxL hdL => ?_
  refine Ze0 (bs := [(S "autojunk", .bool aj), (S "b", bv), (S "a", av), (S "isjunk", .none), (S "self", .ref x)]) (body := Zbm (mS 1)) G (Zrt W0) (by kernel_rfl) rfl (by show A.depth + 1 < _; (exact ul (by assumption) (by decide))) (fun s vs hv hk => ?_) (by kernel_rfl) (by decide) (fun L hL hLe => ?_)
  · exact hb x s vs hv (G.X.keeps hk)
  · have hle : Hp.Le hp ((hp.set dx (.atr fun _ => none)).set x (.obj (instObj 242 dx))) := ((Hp.Le.refl hp).set hdx _).set hx _
    have I : Ins ((hp.set dx (.atr fun _ => none)).set x (.obj (instObj 242 dx))) env.locals x dx 242 (fun _ => none) := ⟨Hp.ss .., Hp.snt (Ne.symm hxd) (Hp.ss ..), hxL, hdL⟩
    have hl1 := hl.le hle
    have hx0 : hp x = none := hx
    have hbv : bv.isNone = false := by cases hl <;> rfl
    have hpne : ∀ z o, hp z = some o → z ≠ dx := fun z o e h => by rw [h, hdx] at e; cases e
    generalize hq : (hp.set dx (.atr fun _ => none)).set x (.obj (instObj 242 dx)) = hp1 at *
    have I' : Ins (hp1.set env.locals (.ns m)) L x dx 242 (fun _ => none) := I.call hL
    have hl' : Src B0 (hp1.set env.locals (.ns m)) L bv bs := hl1.call hL
    have hdl : ∀ ys, (hp1.set env.locals (.ns m)) dx ≠ some (.list ys) := fun ys e => by rw [I'.at_] at e; cases e
    have g0 : Za0 [(S "autojunk", AV.bool aj), (S "b", bv), (S "a", av), (S "isjunk", AV.none), (S "self", AV.ref x)] (S "self") = some (.ref x) := rfl
    have g1 : Za0 [(S "autojunk", AV.bool aj), (S "b", bv), (S "a", av), (S "isjunk", AV.none), (S "self", AV.ref x)] (S "b") = some bv := rfl
    have g2 : Za0 [(S "autojunk", AV.bool aj), (S "b", bv), (S "a", av), (S "isjunk", AV.none), (S "self", AV.ref x)] (S "a") = some av := rfl
    have g3 : Za0 [(S "autojunk", AV.bool aj), (S "b", bv), (S "a", av), (S "isjunk", AV.none), (S "self", AV.ref x)] (S "isjunk") = some .none := rfl
    have g4 : Za0 [(S "autojunk", AV.bool aj), (S "b", bv), (S "a", av), (S "isjunk", AV.none), (S "self", AV.ref x)] (S "autojunk") = some (.bool aj) := rfl
    generalize hm0 : Za0 [(S "autojunk", AV.bool aj), (S "b", bv), (S "a", av), (S "isjunk", AV.none), (S "self", AV.ref x)] = m0 at *
    refine Zac (Zdo ?_)
    refine Zac (Zb0 (Zaa g3 (Za5 G g0 I' ?_)))
    have I1 := I'.put (ma' := upd (fun _ => none) (S "isjunk") .none)
    refine Zac (Zbb (Zcv (Za5 G g0 I1 ?_)))
    rw [Hp.set_set]
    have I2 := I'.put (ma' := upd (upd (fun _ => none) (S "isjunk") .none) (S "a") .none)
    refine Za5 G g0 I2 ?_
    rw [Hp.set_set]
    have I3 := I'.put (ma' := upd (upd (upd (fun _ => none) (S "isjunk") .none) (S "a") .none) (S "b") .none)
    refine Zac (Zb0 (Zaa g4 (Za5 G g0 I3 ?_)))
    rw [Hp.set_set]
    have I4 := I'.put (ma' := upd (upd (upd (upd (fun _ => none) (S "isjunk") .none) (S "a") .none) (S "b") .none) (S "autojunk") (.bool aj))
    refine Zac (Za3 (Zep G (clsS W0) (f := 167) (by kernel_rfl) (by kernel_rfl) (by kernel_rfl) (Zaa g0 ⟨x, dx, _, rfl, I4, ?_, Zab (Zaa g2 (Zab (Zaa g1 (Zae ?_))))⟩)))
    · (first | assumption | rfl)
    refine Zlv (A := (A.under (.builtin "type.__call__" ⟨.ref 242 :: vs', []⟩)).deeper (callEnv Zku L 160)) G hh (by show A.depth + 1 + 1 + 2 < _; (exact Nat.lt_of_succ_lt (by assumption))) I4 (by first | assumption | rfl) (by first | assumption | rfl) (.inl ⟨rfl, hav⟩) (.inl ⟨rfl, hbv⟩) (hl'.put hdl) (by first | assumption | rfl) (by first | assumption | rfl) (fun y hy => ?_) hn hlen fun hp' MM i6 i7 => ?_
    · refine hide fun Gq kq => ?_
      have hy' := hy
      simp only [Zgl, List.mem_cons, List.not_mem_nil, or_false, not_or] at hy'
      obtain ⟨h1, h2, h3, h4, h5, h6, h7, h8, h9, h10⟩ := hy'
      refine kq ?_; clear kq Gq
      simp only [ug, h1, h2, h3, h4, if_false]
    refine ⟨by simp, by simp, by simp, ?_⟩
    have keepz : ∀ z o, z ≠ dx → z ≠ L → (hp1.set env.locals (.ns m)) z = some o → hp' z = some o := fun z o hz hzL e => i6 z o hz hzL (Hp.snt hz e)
    have hlE : hp' env.locals = some (.ns m) := keepz _ _ (Ne.symm I.dL) (Ne.symm hLe) (Hp.ss ..)
    refine Zag (Zcr hlE ⟨rfl, h _ x dx hx0 hdx (MM.move fun z o e hns hz => ?_) (fun z o hzE e => ?_) (by simp [Hp.cut])⟩)
    · have hzE : z ≠ env.locals := fun h => by rw [h, hlE] at e; cases e; exact hns _ rfl
      exact ⟨by rw [Hp.cut_eq hzE (show z ≠ L from hz)]; exact e, hzE⟩
    · have e1 := hle _ _ e
      have hzL : z ≠ L := Hp.ne_of e1 hL
      rw [Hp.cut_eq hzE hzL]
      exact keepz z o (hpne z o e) hzL (Hp.snt hzE e1)
theorem Zq9 {Q : AV → Hp → Prop} (G : Gnd (KW W0) B0) (hh : A.handled = none) (hroom : A.depth + 5 < recursionLimit)
    (h : ∀ hp' x dx, hp x = none → hp dx = none → MT hp' env.locals x dx (.str (S "")) (.str (S "")) [] true .none .none → (∀ z o, z ≠ env.locals → hp z = some o → hp' z = some o) → hp' env.locals = none → Q (.ref x) hp') :
    CL (model PW W0) B0 E0 A env (.ref 242) m [] hp Q := by
  refine Zq8 G hh hroom rfl .emp (.inr (.inl (by decide))) (Nat.zero_le _) h fun x s vs hv hk => ?_
  obtain ⟨v, rfl, h1⟩ := Zbo hv
  simp only [VR] at h1; subst h1
  exact ⟨[(S "self", .ref x), (S "isjunk", .none), (S "a", .str (S "") 404), (S "b", .str (S "") 405), (S "autojunk", .bool true)], binds_K hk rfl (by rfl) rfl rfl rfl, rfl, .mk VR_bool (.mk Zn0 (.mk Zn0 (.mk VR_none (.mk VR_ref .nil))))⟩
end
noncomputable abbrev Best := Int × Int × Int
noncomputable abbrev FSt := (Int → Int) × Best
noncomputable def innS (i : Int) (f : Int → Int) (st : FSt) (j : Int) : FSt :=
  (fun x => if x = j then f (j - 1) + 1 else st.1 x, if f (j - 1) + 1 > st.2.2.2 then (i - (f (j - 1) + 1) + 1, j - (f (j - 1) + 1) + 1, f (j - 1) + 1) else st.2)
noncomputable def Zds (i blo bhi : Int) (f : Int → Int) : List Nat → FSt → FSt
  | [], st => st
  | j :: js, st => if (j : Int) < blo then Zds i blo bhi f js st else if (j : Int) ≥ bhi then st else Zds i blo bhi f js (innS i f st j)
theorem inner_s {i blo bhi : Int} {f : Int → Int} {j : Nat} {js : List Nat} {st : FSt} : Zds i blo bhi f (j :: js) st = if (j : Int) < blo then Zds i blo bhi f js st else if (j : Int) ≥ bhi then st else Zds i blo bhi f js (innS i f st j) := rfl
theorem Zot {i blo bhi : Int} {f : Int → Int} {st : FSt} : Zds i blo bhi f [] st = st := rfl
noncomputable def DI (kvs : List (Int × AV)) (f : Int → Int) : Prop := ∀ k, (dget kvs k).getD (.int 0) = .int (f k)
theorem dget_dput (kvs : List (Int × AV)) (k : Int) (v : AV) (k' : Int) : dget (dput kvs k v) k' = if k' = k then some v else dget kvs k' := by
  unfold dput
  by_cases h : (kvs.any fun kv => decide (kv.1 = k)) = true
  · rw [if_pos h]
    unfold dget
    induction kvs with
    | nil => simp at h
    | cons p kvs ih =>
      obtain ⟨q, u⟩ := p
      simp only [List.map_cons]
      by_cases hq : q = k
      · subst hq
        by_cases hk : k' = q
        · subst hk; simp
        · simp only [if_true, List.find?_cons, hk, if_false]
          rw [show decide (q = k') = false from by simpa using Ne.symm hk]
          dsimp only
          by_cases h' : (kvs.any fun kv => decide (kv.1 = q)) = true
          · rw [ih h', if_neg hk]
          · have : kvs.map (fun kv => if kv.1 = q then (kv.1, v) else kv) = kvs := by
              rw [List.map_congr_left (g := fun x => x)]; simp
              intro a ha
              have : a.1 ≠ q := fun e => h' (List.any_eq_true.mpr ⟨a, ha, by simpa using e⟩)
              simp [this]
            rw [this]
      · simp only [hq, if_false, List.find?_cons]
        by_cases hk : q = k'
        · subst hk; simp [hq]
        · rw [show decide (q = k') = false from by simpa using hk]
          dsimp only
          refine ih ?_
          simpa [hq] using h
  · rw [if_neg h]
    refine Zdh kvs k v k' ?_
    unfold dget
    rw [List.find?_eq_none.mpr]; rfl
    intro x hx hx'
    exact h (List.any_eq_true.mpr ⟨x, hx, hx'⟩)
theorem Zia (kvs : List (Int × AV)) (k : Int) (v : AV) : (dput kvs k v).length ≤ kvs.length + 1 := by
  unfold dput; split <;> simp
theorem DI.put {kvs : List (Int × AV)} {f : Int → Int} (h : DI kvs f) (k v : Int) : DI (dput kvs k (.int v)) (fun x => if x = k then v else f x) := fun x => by
  rw [dget_dput]
  by_cases e : x = k
  · simp [e]
  · simp only [e, if_false]; exact h x
noncomputable def flmS (i : Nat) : Stmt := (Zbm (mS 6)).getD i (.Pass ⟨0, 0, 0, 0⟩)
noncomputable def flmO : List Stmt := kids (flmS 7)
noncomputable def flmI : Stmt := flmO.getD 2 (.Pass ⟨0, 0, 0, 0⟩)
noncomputable def Zby (m : Loc) (b : Best) : Prop := m (S "besti") = some (.int b.1) ∧ m (S "bestj") = some (.int b.2.1) ∧ m (S "bestsize") = some (.int b.2.2)
section
variable {A : Around} {m : Loc} {hp : Hp}
theorem Zmw {L gb dj dn : Addr} {kj kn : List (Int × AV)} {f g : Int → Int} {i j blo bhi : Int} {b : Best} (G : Gnd (KW W0) B0) (hh : A.handled = none)
    (h1 : m (S "i") = some (.int i)) (h2 : m (S "blo") = some (.int blo)) (h3 : m (S "bhi") = some (.int bhi)) (h4 : m (S "j2lenget") = some (.ref gb)) (h5 : m (S "newj2len") = some (.ref dn)) (hb : Zby m b) (hj : m (S "j") = some (.int j))
    (g1 : hp gb = some (.obj (Zbc "dict.get" dj))) (g1L : gb ≠ L) (g2 : hp dj = some (.dict kj)) (g2L : dj ≠ L) (g3 : DI kj f) (g4 : hp dn = some (.dict kn)) (g4L : dn ≠ L) (g5 : DI kn g) (hlen : kn.length ≤ 4900) {KK : AF → Loc → Hp → Prop}
    (k1 : j < blo → KK .cont m hp) (k2 : ¬ j < blo → j ≥ bhi → KK .brk m hp) (k3 : ∀ m' kn', (∀ y, y ≠ "k" → y ≠ "besti" → y ≠ "bestj" → y ≠ "bestsize" → m' (S y) = m (S y)) → ¬ j < blo → ¬ j ≥ bhi → Zby m' (innS i f (g, b) j).2 → kn'.length ≤ kn.length + 1 → DI kn' (innS i f (g, b) j).1 → KK .next m' (hp.set dn (.dict kn'))) :
    EXs (model PW W0) B0 (fun _ _ => False) A (callEnv Zdg L 196) (kids flmI) m hp KK := by
  refine hide fun Gq kq => ?_
  obtain ⟨b1, b2, b3⟩ := hb
  refine kq ?_; clear kq Gq
  refine Zac ?_
  refine Za4 ?_
  refine Zad ?_
  refine Zaa (by first | assumption | rfl) ?_
  refine Zaa (by first | assumption | rfl) ?_
  refine Zcu ?_
  refine Zaf ?_
  by_cases c1 : j < blo
  · refine Zcm c1 ?_
    refine Zac ?_
    refine Zhn ?_
    exact k1 c1
  refine Zch c1 ?_
  refine Zag (Zac ?_)
  refine Za4 ?_
  refine Zad ?_
  refine Zaa (by first | assumption | rfl) ?_
  refine Zaa (by first | assumption | rfl) ?_
  refine Znc ?_
  refine Zaf ?_
  by_cases c2 : j ≥ bhi
  · refine Zcm (show bhi ≤ j from c2) ?_
    refine Zac ?_
    refine Zni ?_
    exact k2 c1 c2
  refine Zch (show ¬ bhi ≤ j from c2) ?_
  refine Zag (Zac (Zbb (Zah (Zcj (id := "dict.get") (Zaa h4 ⟨gb, dj, rfl, g1L, ?_⟩)))))
  refine Zab ?_
  refine Zah ?_
  refine Zaa (by first | assumption | rfl) ?_
  refine Zaj ?_
  refine Zb2 ?_
  refine Zab ?_
  refine Zaj ?_
  refine Zae ?_
  refine ⟨g1, Zpl G g1 g1L g2 g2L ?_⟩
  rw [g3 (j - 1)]
  refine Zaj ?_
  refine Zat ?_
  refine Zak (Zl0 ?_)
  refine Zaa (by first | assumption | rfl) ?_
  refine Zaa (by first | assumption | rfl) ?_
  refine ⟨dn, kn, j, rfl, rfl, g4, g4L, by (exact Nat.le_trans (by assumption) (by decide)), ?_⟩
  refine Zac ?_
  refine Za4 ?_
  refine Zad ?_
  refine Zaa (by first | assumption | rfl) ?_
  refine Zaa (by first | assumption | rfl) ?_
  refine Zi4 ?_
  refine Zaf ?_
  have hD := g5.put j (f (j - 1) + 1)
  by_cases c3 : b.2.2 < f (j - 1) + 1
  · refine Zcm c3 ?_
    refine Zac (Zar hh (names := [S "besti", S "bestj", S "bestsize"]) ?_)
    refine Zap ?_
    refine Zab ?_
    refine Zah ?_
    refine Zah ?_
    refine Zaa (by first | assumption | rfl) ?_
    refine Zaa (by first | assumption | rfl) ?_
    refine Zb2 ?_
    refine Zaj ?_
    refine Zat ?_
    refine Zab ?_
    refine Zah ?_
    refine Zah ?_
    refine Zaa (by first | assumption | rfl) ?_
    refine Zaa (by first | assumption | rfl) ?_
    refine Zb2 ?_
    refine Zaj ?_
    refine Zat ?_
    refine Zab ?_
    refine Zaa (by first | assumption | rfl) ?_
    refine Zae ?_
    refine ⟨sz rfl, ?_⟩
    refine ⟨_, rfl, rfl, Zal (Zal (Zal (Zaq ?_)))⟩
    refine Zag ?_
    refine Zag ?_
    refine k3 _ _ (fun y a1 a2 a3 a4 => by simp only [ug, a1, a2, a3, a4, if_false]) c1 c2 ?_ (Zia ..) hD
    have c3' : f (j - 1) + 1 > b.2.2 := c3
    simp only [innS, c3', if_true]
    refine ⟨?_, ?_, ?_⟩ <;> (first | assumption | rfl)
  · refine Zch c3 ?_
    refine Zag (Zag (k3 _ _ (fun y a1 a2 a3 a4 => by simp only [ug, a1, if_false]) c1 c2 ?_ (Zia ..) hD))
    have c3' : ¬ (f (j - 1) + 1 > b.2.2) := c3
    simp only [innS, c3', if_false]
    refine ⟨?_, ?_, ?_⟩ <;> (first | assumption | rfl)
end
noncomputable def Zgb : List String := ["j", "k", "besti", "bestj", "bestsize"]
section
variable {A : Around} {m : Loc} {hp : Hp}
theorem Zkr {L gb dj dn d aA nt : Addr} {kj kn : List (Int × AV)} {f g : Int → Int} {J : Int → List Nat} {i blo bhi x : Int} {b : Best} {as : List Int} (G : Gnd (KW W0) B0) (hh : A.handled = none)
    (h1 : m (S "i") = some (.int i)) (h2 : m (S "blo") = some (.int blo)) (h3 : m (S "bhi") = some (.int bhi)) (h4 : m (S "j2lenget") = some (.ref gb)) (h5 : m (S "newj2len") = some (.ref dn)) (hb : Zby m b) (h6 : m (S "b2j") = some (.ref d)) (h7 : m (S "a") = some (.ref aA)) (h8 : m (S "nothing") = some (.ref nt))
    (g1 : hp gb = some (.obj (Zbc "dict.get" dj))) (g1L : gb ≠ L) (g2 : hp dj = some (.dict kj)) (g2L : dj ≠ L) (g3 : DI kj f) (g4 : hp dn = some (.dict kn)) (g4L : dn ≠ L) (g5 : DI kn g) (hlen : kn = []) (hdd : dn ≠ dj)
    (R : JD hp L d J) (hl : Lst B0 hp L aA (as.map .int)) (hnt : hp nt = some (.list [])) (hntL : nt ≠ L) (hi : 0 ≤ i) (hx : as[i.toNat]? = some x) (hi2 : i < 2 ^ 62) (hJ : (J x).length ≤ 4000) {KK : AF → Loc → Hp → Prop}
    (hK : ∀ m' hp' kn', (∀ y, y ∉ Zgb → m' (S y) = m (S y)) → Zby m' (Zds i blo bhi f (J x) (g, b)).2 → kn'.length ≤ 4000 → hp' dn = some (.dict kn') → DI kn' (Zds i blo bhi f (J x) (g, b)).1 → (∀ z o, z ≠ dn → hp z = some o → hp' z = some o) → KK .next m' hp') :
    EX (model PW W0) B0 (fun _ _ => False) A (callEnv Zdg L 196) flmI m hp KK := by
  refine hide fun Gq kq => ?_
  obtain ⟨kvs, r1, r2, r3, r4⟩ := R.ex
  have src : ∃ a, (dget kvs x).getD (.ref nt) = .ref a ∧ hp a = some (.list ((J x).map fun (i : Nat) => AV.int (i : Int))) ∧ a ≠ L := by
    cases e : dget kvs x with
    | none => exact ⟨nt, rfl, by rw [r3 x e]; exact hnt, hntL⟩
    | some v => obtain ⟨a, rfl, ha, haL⟩ := r4 x v e; exact ⟨a, rfl, ha, haL⟩
  obtain ⟨lA, e1, e2, e3⟩ := src
  refine kq ?_; clear kq Gq
  have hdl : dn ≠ lA := fun e => by rw [e, e2] at g4; cases g4
  refine Zem hh (Zil F.slot_dict_get F.type_dict_get F.plainAttrs_dict (Zaa h6 ⟨d, rfl, Zkk r1 r2, Zab (Zam (Zaa h7 (Zaa h1 (Zaw hl hi (by lia) (x := .int x) ?_ (Zab (Zaa h8 (Zae (Zpj G r1 r2 ?_))))))))⟩))
  · rw [List.getElem?_map, hx]; rfl
  rw [e1]
  refine ⟨lA, _, rfl, .own e2 e3, fun it hit hitL => ?_⟩
  have hid : it ≠ dn := Ne.symm (Hp.ne_of g4 hit)
  have hib : Zby m b := hb
  let Iq : Nat → Loc → Hp → Prop := fun k m₂ hp₂ => (∀ y, y ∉ Zgb → m₂ (S y) = m (S y)) ∧ ∃ kn' g' b', Zby m₂ b' ∧ kn'.length ≤ k ∧ hp₂ dn = some (.dict kn') ∧ DI kn' g' ∧ (∀ z o, z ≠ dn → hp z = some o → hp₂ z = some o) ∧ Zds i blo bhi f ((J x).drop k) (g', b') = Zds i blo bhi f (J x) (g, b)
  refine ⟨Iq, fun ob => ?_, fun k m₂ hp₂ ob x => ?_, fun k m₂ hp₂ x => ?_, fun k y m₂ hp₂ ob hy x hob => ?_, fun m₂ hp₂ x => ?_⟩
  · exact ⟨fun _ _ => rfl, kn, g, b, hb, by rw [hlen]; exact Nat.le_refl _, Hp.snt (Ne.symm hid) g4, g5, fun z o hz e => Hp.snt (Hp.ne_of e hit) e, rfl⟩
  · refine hide fun Gq kq => ?_
    obtain ⟨x0, kn', g', b', x1, x2, x3, x4, x5, x6⟩ := x
    refine kq ?_; clear kq Gq
    exact ⟨x0, kn', g', b', x1, x2, Hp.snt (Ne.symm hid) x3, x4, fun z o hz e => Hp.snt (Hp.ne_of e hit) (x5 z o hz e), x6⟩
  · refine hide fun Gq kq => ?_
    obtain ⟨x0, kn', g', b', x1, x2, x3, x4, x5, x6⟩ := x
    refine kq ?_; clear kq Gq
    exact .own (x5 _ _ (Ne.symm hdl) e2) e3
  · refine hide fun Gq kq => ?_
    obtain ⟨x0, kn', g', b', x1, x2, x3, x4, x5, x6⟩ := x
    obtain ⟨j, hjk, rfl⟩ : ∃ j, (J x)[k]? = some j ∧ AV.int (j : Int) = y := by
      rw [List.getElem?_map] at hy
      exact Option.map_eq_some_iff.mp hy
    refine kq ?_; clear kq Gq
    have hkl : k < (J x).length := (List.getElem?_eq_some_iff.mp hjk).1
    have hdrop : (J x).drop k = j :: (J x).drop (k + 1) := by
      rw [List.drop_eq_getElem_cons hkl]; congr 1
      rw [List.getElem?_eq_getElem hkl] at hjk; exact Option.some.inj hjk
    refine Zak ?_
    have hm' : ∀ y, y ∉ Zgb → upd m₂ (S "j") (.int j) (S y) = m (S y) := fun y hy => by
      have : y ≠ "j" := fun e => hy (by rw [e]; decide)
      rw [ug, if_neg this]; exact x0 y hy
    have hbl : Zby (upd m₂ (S "j") (.int j)) b' := by obtain ⟨q1, q2, q3⟩ := x1; exact ⟨by first | assumption | rfl, by first | assumption | rfl, by first | assumption | rfl⟩
    rw [hdrop] at x6
    refine Zcp fun KB hKB => ?_
    refine Zmw (A := A) G hh (by rw [hm' _ (by decide)]; exact h1) (by rw [hm' _ (by decide)]; exact h2) (by rw [hm' _ (by decide)]; exact h3) (by rw [hm' _ (by decide)]; exact h4) (by rw [hm' _ (by decide)]; exact h5) hbl (by first | assumption | rfl)
      (x5 _ _ (fun e => by rw [e, g4] at g1; cases g1) g1) g1L (x5 _ _ (Ne.symm hdd) g2) g2L g3 x3 g4L x4 (by lia) (fun c1 => ?_) (fun c1 c2 => ?_) (fun m4 kn2 y0 c1 c2 c3 c4 c5 => ?_)
    · refine hKB _ _ _ ⟨⟨hm', kn', g', b', hbl, by lia, x3, x4, x5, ?_⟩, hob⟩
      rw [← x6, inner_s, if_pos c1]
    · refine hKB _ _ _ (hK _ _ kn' hm' ?_ (by lia) x3 ?_ x5)
      · rw [← x6, inner_s, if_neg c1, if_pos c2]; exact hbl
      · rw [← x6, inner_s, if_neg c1, if_pos c2]; exact x4
    · refine hKB _ _ _ ⟨⟨fun y hy => ?_, kn2, _, _, c3, by lia, Hp.ss .., c5, fun z o hz e => Hp.snt hz (x5 z o hz e), ?_⟩, Hp.snt hid hob⟩
      · have a1 : y ≠ "k" := fun e => hy (by rw [e]; decide)
        have a2 : y ≠ "besti" := fun e => hy (by rw [e]; decide)
        have a3 : y ≠ "bestj" := fun e => hy (by rw [e]; decide)
        have a4 : y ≠ "bestsize" := fun e => hy (by rw [e]; decide)
        rw [y0 y a1 a2 a3 a4]; exact hm' y hy
      · rw [← x6, inner_s, if_neg c1, if_neg c2]
  · refine hide fun Gq kq => ?_
    obtain ⟨x0, kn', g', b', x1, x2, x3, x4, x5, x6⟩ := x
    refine kq ?_; clear kq Gq
    rw [List.length_map, List.drop_length, Zot] at x6
    rw [List.length_map] at x2
    exact hK _ _ kn' x0 (by rw [← x6]; exact x1) (by (exact Nat.le_trans (by assumption) (by assumption))) (by rw [Hp.del_ne _ (Ne.symm hid)]; exact x3) (by rw [← x6]; exact x4) (fun z o hz e => by rw [Hp.del_ne _ (Hp.ne_of e hit)]; exact x5 z o hz e)
end
noncomputable def outS (as : List Int) (J : Int → List Nat) (alo blo bhi : Int) : Nat → FSt
  | 0 => (fun _ => 0, (alo, blo, 0))
  | n + 1 => Zds (alo + n) blo bhi (outS as J alo blo bhi n).1 (J (as.getD (alo + n).toNat 0)) (fun _ => 0, (outS as J alo blo bhi n).2)
theorem Zpx {as : List Int} {J : Int → List Nat} {alo blo bhi : Int} {n : Nat} : outS as J alo blo bhi (n + 1) = Zds (alo + n) blo bhi (outS as J alo blo bhi n).1 (J (as.getD (alo + n).toNat 0)) (fun _ => 0, (outS as J alo blo bhi n).2) := rfl
noncomputable def Ze5 : List String := ["i", "j2lenget", "newj2len", "j2len", "j", "k", "besti", "bestj", "bestsize"]
theorem fo {y : String} (h : y ∉ Ze5) : y ∉ Zgb := fun e => h (by
  simp only [Zgb, List.mem_cons, List.not_mem_nil, or_false] at e
  simp only [Ze5, List.mem_cons, List.not_mem_nil, or_false]
  rcases e with e | e | e | e | e <;> simp [e])
section
variable {A : Around} {m : Loc} {hp : Hp}
theorem Zkq {L d aA nt d0 : Addr} {J : Int → List Nat} {alo ahi blo bhi : Int} {as : List Int} (G : Gnd (KW W0) B0) (hh : A.handled = none)
    (h1 : m (S "alo") = some (.int alo)) (h1' : m (S "ahi") = some (.int ahi)) (h2 : m (S "blo") = some (.int blo)) (h3 : m (S "bhi") = some (.int bhi)) (hb : Zby m (alo, blo, 0)) (h6 : m (S "b2j") = some (.ref d)) (h7 : m (S "a") = some (.ref aA)) (h8 : m (S "nothing") = some (.ref nt)) (h9 : m (S "j2len") = some (.ref d0))
    (g2 : hp d0 = some (.dict [])) (g2L : d0 ≠ L) (R : JD hp L d J) (hl : Lst B0 hp L aA (as.map .int)) (hnt : hp nt = some (.list [])) (hntL : nt ≠ L) (ha0 : 0 ≤ alo) (ha1 : ahi ≤ as.length) (ha2 : alo < 2 ^ 62) (hal : as.length ≤ 4000) (hal2 : -(2 ^ 62) ≤ ahi) (hJ : ∀ x, (J x).length ≤ 4000) {KK : AF → Loc → Hp → Prop}
    (hK : ∀ m' hp', (∀ y, y ∉ Ze5 → m' (S y) = m (S y)) → Zby m' (outS as J alo blo bhi (ahi - alo).toNat).2 → Hp.Le hp hp' → KK .next m' hp') :
    EX (model PW W0) B0 (fun _ _ => False) A (callEnv Zdg L 196) (flmS 7) m hp KK := by
  refine Zlo hh (Zc0 (Zay G (Zcw W0) Zci (by decide) (fun _ => Zdl) ⟨rfl, Zab (Zaa h1 (Zab (Zaa h1' (Zae (Zet fun r ob hr hrL ro => ?_)))))⟩))
  refine ⟨r, ob, alo, ahi, rfl, Hp.ss .., hrL, ro, by lia, ha2, hal2, by lia, fun it hit hitL => ?_⟩
  have hle1 : Hp.Le hp (hp.set r (.obj ob)) := (Hp.Le.refl _).set hr _
  have hit' : hp it = none := hle1.none hit
  refine ⟨fun n m₂ hp₂ => (∀ y, y ∉ Ze5 → m₂ (S y) = m (S y)) ∧ Zby m₂ (outS as J alo blo bhi n).2 ∧ Hp.Le hp hp₂ ∧ ∃ dj kj, m₂ (S "j2len") = some (.ref dj) ∧ hp₂ dj = some (.dict kj) ∧ dj ≠ L ∧ dj ≠ it ∧ DI kj (outS as J alo blo bhi n).1, fun ob' => ?_, fun n m₂ hp₂ ob' x => ?_, fun n m₂ hp₂ ob' hn x hob => ?_, fun m₂ hp₂ x => ?_⟩
  · have hd0 : d0 ≠ it := Hp.ne_of (hle1 _ _ g2) hit
    refine ⟨fun _ _ => rfl, hb, hle1.set hit' _, d0, [], h9, Hp.snt hd0 (hle1 _ _ g2), g2L, hd0, fun k => rfl⟩
  · refine hide fun Gq kq => ?_
    obtain ⟨x0, x1, x2, dj, kj, x3, x4, x5, x6, x7⟩ := x
    refine kq ?_; clear kq Gq
    exact ⟨x0, x1, x2.set hit' _, dj, kj, x3, Hp.snt x6 x4, x5, x6, x7⟩
  · refine hide fun Gq kq => ?_
    obtain ⟨x0, x1, x2, dj, kj, x3, x4, x5, x6, x7⟩ := x
    obtain ⟨b1, b2, b3⟩ := x1
    refine kq ?_; clear kq Gq
    refine Zak ?_
    refine Zcp fun KB hKB => ?_
    try dsimp only
    generalize hm1 : upd m₂ _ _ = m1
    have q0 : ∀ y, y ∉ Ze5 → m1 (S y) = m (S y) := fun y hy => by
      subst hm1
      have : y ≠ "i" := fun e => hy (by rw [e]; decide)
      rw [ug, if_neg this]; exact x0 y hy
    have q1 : m1 (S "i") = some (.int (alo + n)) := by subst hm1; (first | assumption | rfl)
    have q2 : Zby m1 (outS as J alo blo bhi n).2 := by subst hm1; exact ⟨by first | assumption | rfl, by first | assumption | rfl, by first | assumption | rfl⟩
    have q3 : m1 (S "j2len") = some (.ref dj) := by subst hm1; (first | assumption | rfl)
    clear hm1 b1 b2 b3 x0 x3
    refine Zac (Zao (Znm Zm4 (fun ho hc h => Zf8 ho hc h) (Zaa q3 ⟨dj, rfl, Zh2 x4 x5, fun gb hgb hgbL => ?_⟩)))
    refine Zac (Zao (Zfz fun dn hdn hdnL => ?_))
    have hle2 : Hp.Le hp₂ ((hp₂.set gb (.obj (Zbc "dict.get" dj))).set dn (.dict [])) := ((Hp.Le.refl _).set hgb _).set (((Hp.Le.refl hp₂).set hgb _).none hdn) _
    have hgn : gb ≠ dn := Hp.ne_of (Hp.ss ..) hdn
    have hdnd : dn ≠ dj := Ne.symm (Hp.ne_of (((Hp.Le.refl hp₂).set hgb (.obj (Zbc "dict.get" dj))) _ _ x4) hdn)
    have hidn : it ≠ dn := Hp.ne_of (((Hp.Le.refl hp₂).set hgb (.obj (Zbc "dict.get" dj))) _ _ hob) hdn
    try dsimp only
    generalize hm2 : upd (upd m1 _ _) _ _ = m2
    have p0 : ∀ y, y ∉ Ze5 → m2 (S y) = m (S y) := fun y hy => by
      subst hm2
      exact updO hy (updO hy (q0 y hy))
    have p1 : m2 (S "i") = some (.int (alo + n)) := by subst hm2; (first | assumption | rfl)
    have p2 : Zby m2 (outS as J alo blo bhi n).2 := by obtain ⟨b1, b2, b3⟩ := q2; subst hm2; exact ⟨by first | assumption | rfl, by first | assumption | rfl, by first | assumption | rfl⟩
    have p3 : m2 (S "j2lenget") = some (.ref gb) := by subst hm2; (first | assumption | rfl)
    have p4 : m2 (S "newj2len") = some (.ref dn) := by subst hm2; (first | assumption | rfl)
    clear hm2 q0 q1 q2 q3
    have hng : alo + n < ahi := by lia
    have hidx : as[(alo + (n : Int)).toNat]? = some (as.getD (alo + n).toNat 0) := by
      have : (alo + (n : Int)).toNat < as.length := by lia
      simp [List.getD, List.getElem?_eq_getElem this]
    have hle3 := x2.trans hle2
    refine Zac ?_
    refine Zkr (A := A) (kn := []) (g := fun _ => 0) (x := as.getD (alo + n).toNat 0) (as := as) G hh p1 (by rw [p0 _ (by decide)]; exact h2) (by rw [p0 _ (by decide)]; exact h3) p3 p4 p2 (by rw [p0 _ (by decide)]; exact h6) (by rw [p0 _ (by decide)]; exact h7) (by rw [p0 _ (by decide)]; exact h8)
      (Hp.snt hgn (Hp.ss ..)) hgbL (hle2 _ _ x4) x5 x7 (Hp.ss ..) hdnL (fun k => rfl) rfl hdnd (R.le hle3) (hl.le hle3) (hle3 _ _ hnt) hntL (by lia) hidx (by lia) (hJ _) fun m3 hp3 kn' y1 y2 y3 y4 y5 y6 => ?_
    refine hide fun Gq kq => ?_
    obtain ⟨b1, b2, b3⟩ := y2
    refine kq ?_; clear kq Gq
    have hnb : hp dn = none := x2.none (((Hp.Le.refl hp₂).set hgb (.obj (Zbc "dict.get" dj))).none hdn)
    have y7 : m3 (S "newj2len") = some (.ref dn) := by rw [y1 _ (by decide)]; exact p4
    refine Zac (Zao (Zaa y7 ?_))
    refine Zag (hKB _ _ _ ⟨⟨fun y hy => ?_, ⟨by first | assumption | rfl, by first | assumption | rfl, by first | assumption | rfl⟩, fun z o hz => ?_, dn, kn', ?_, y4, hdnL, Ne.symm hidn, y5⟩, ?_⟩)
    · have a1 : y ≠ "j2len" := fun e => hy (by rw [e]; decide)
      rw [ug, if_neg a1, y1 y (fo hy)]; exact p0 y hy
    · have hzn : z ≠ dn := fun e => by rw [e, hnb] at hz; cases hz
      exact y6 z o hzn (hle3 _ _ hz)
    · (first | assumption | rfl)
    · exact y6 _ _ hidn (hle2 _ _ hob)
  · refine hide fun Gq kq => ?_
    obtain ⟨x0, x1, x2, dj, kj, x3, x4, x5, x6, x7⟩ := x
    refine kq ?_; clear kq Gq
    exact hK _ _ x0 x1 (x2.del hit')
end
noncomputable def cnd (as bs : List Int) (fj : Int → Bool) (want : Bool) (p q : Int) : Bool := (fj (bs.getD q.toNat 0) == want) && (as.getD p.toNat 0 == bs.getD q.toNat 0)
noncomputable def down (c : Int → Int → Bool) (alo blo : Int) : Nat → Best → Best
  | 0, b => b
  | n + 1, b => if b.1 > alo ∧ b.2.1 > blo ∧ c (b.1 - 1) (b.2.1 - 1) = true then down c alo blo n (b.1 - 1, b.2.1 - 1, b.2.2 + 1) else b
noncomputable def up (c : Int → Int → Bool) (ahi bhi : Int) : Nat → Best → Best
  | 0, b => b
  | n + 1, b => if b.1 + b.2.2 < ahi ∧ b.2.1 + b.2.2 < bhi ∧ c (b.1 + b.2.2) (b.2.1 + b.2.2) = true then up c ahi bhi n (b.1, b.2.1, b.2.2 + 1) else b
theorem Zdy {c : Int → Int → Bool} {alo blo : Int} {n : Nat} {b : Best} : down c alo blo (n + 1) b = if b.1 > alo ∧ b.2.1 > blo ∧ c (b.1 - 1) (b.2.1 - 1) = true then down c alo blo n (b.1 - 1, b.2.1 - 1, b.2.2 + 1) else b := rfl
theorem up_s {c : Int → Int → Bool} {ahi bhi : Int} {n : Nat} {b : Best} : up c ahi bhi (n + 1) b = if b.1 + b.2.2 < ahi ∧ b.2.1 + b.2.2 < bhi ∧ c (b.1 + b.2.2) (b.2.1 + b.2.2) = true then up c ahi bhi n (b.1, b.2.1, b.2.2 + 1) else b := rfl
noncomputable def Zcn (c : Int → Int → Bool) (alo blo : Int) (b : Best) : Best := down c alo blo (b.1 - alo).toNat b
noncomputable def Zfb (c : Int → Int → Bool) (ahi bhi : Int) (b : Best) : Best := up c ahi bhi (ahi - (b.1 + b.2.2)).toNat b
noncomputable def flmF (as bs : List Int) (J : Int → List Nat) (fj : Int → Bool) (alo ahi blo bhi : Int) : Best :=
  Zfb (cnd as bs fj true) ahi bhi (Zcn (cnd as bs fj true) alo blo (Zfb (cnd as bs fj false) ahi bhi (Zcn (cnd as bs fj false) alo blo (outS as J alo blo bhi (ahi - alo).toNat).2)))
structure InB (as bs : List Int) (alo blo : Int) (b : Best) : Prop where
  a0 : alo ≤ b.1
  b0 : blo ≤ b.2.1
  k0 : 0 ≤ b.2.2
  a1 : b.1 > alo → b.1 ≤ as.length
  b1 : b.2.1 > blo → b.2.1 ≤ bs.length
theorem InB.down {as bs : List Int} {alo blo : Int} {c : Int → Int → Bool} : ∀ {n : Nat} {b : Best}, InB as bs alo blo b → InB as bs alo blo (Mine.down c alo blo n b)
  | 0, b, h => h
  | n + 1, b, h => by
    rw [Zdy]
    split
    · rename_i hc
      refine InB.down ⟨?_, ?_, ?_, ?_, ?_⟩
      · show alo ≤ b.1 - 1; omega
      · show blo ≤ b.2.1 - 1; omega
      · have := h.k0; show 0 ≤ b.2.2 + 1; lia
      · have := h.a1 hc.1; intro _; show b.1 - 1 ≤ _; lia
      · have := h.b1 hc.2.1; intro _; show b.2.1 - 1 ≤ _; lia
    · exact h
theorem InB.up {as bs : List Int} {alo blo ahi bhi : Int} {c : Int → Int → Bool} : ∀ {n : Nat} {b : Best}, InB as bs alo blo b → InB as bs alo blo (Mine.up c ahi bhi n b)
  | 0, b, h => h
  | n + 1, b, h => by
    rw [up_s]
    split
    · refine InB.up ⟨h.a0, h.b0, ?_, h.a1, h.b1⟩
      have := h.k0; show 0 ≤ b.2.2 + 1; lia
    · exact h
noncomputable def Zda : List String := ["besti", "bestj", "bestsize"]
section
variable {A : Around} {m : Loc} {hp : Hp}
structure FL (B0 : Shared) (hp : Hp) (L aA bA ib j : Addr) (as bs : List Int) (fj : Int → Bool) (nj : Nat) (alo ahi blo bhi : Int) (m : Loc) : Prop where
  h1 : m (S "alo") = some (.int alo)
  h2 : m (S "ahi") = some (.int ahi)
  h3 : m (S "blo") = some (.int blo)
  h4 : m (S "bhi") = some (.int bhi)
  h5 : m (S "a") = some (.ref aA)
  h6 : m (S "b") = some (.ref bA)
  h7 : m (S "isbjunk") = some (.ref ib)
  l1 : Lst B0 hp L aA (as.map .int)
  l2 : Lst B0 hp L bA (bs.map .int)
  i1 : hp ib = some (.obj (Zbc "set.__contains__" j))
  i1L : ib ≠ L
  i2 : hp j = some (.set fj nj)
  i2L : j ≠ L
  r1 : 0 ≤ alo
  r2 : 0 ≤ blo
  r3 : ahi ≤ as.length
  r4 : bhi ≤ bs.length
  r5 : as.length ≤ 4000
  r6 : bs.length ≤ 4000
theorem FL.upd {L aA bA ib j : Addr} {as bs : List Int} {fj : Int → Bool} {nj : Nat} {alo ahi blo bhi : Int} (F : FL B0 hp L aA bA ib j as bs fj nj alo ahi blo bhi m) {m' : Loc} (h : ∀ y, y ∉ Zda → m' (S y) = m (S y)) : FL B0 hp L aA bA ib j as bs fj nj alo ahi blo bhi m' :=
  { F with h1 := by rw [h _ (by decide)]; exact F.h1, h2 := by rw [h _ (by decide)]; exact F.h2, h3 := by rw [h _ (by decide)]; exact F.h3, h4 := by rw [h _ (by decide)]; exact F.h4, h5 := by rw [h _ (by decide)]; exact F.h5, h6 := by rw [h _ (by decide)]; exact F.h6, h7 := by rw [h _ (by decide)]; exact F.h7 }
theorem Za8 {l : List Int} {i : Int} (h0 : 0 ≤ i) (h1 : i < l.length) : (l.map AV.int)[i.toNat]? = some (.int (l.getD i.toNat 0)) := by
  have : i.toNat < l.length := by (exact Zcd (by assumption) (by assumption))
  simp [List.getD, List.getElem?_eq_getElem this]
theorem Zql {L aA bA ib j : Addr} {as bs : List Int} {fj : Int → Bool} {nj : Nat} {alo ahi blo bhi : Int} {b : Best} {KK : AF → Loc → Hp → Prop} (hh : A.handled = none) (F : FL B0 hp L aA bA ib j as bs fj nj alo ahi blo bhi m) (hb : Zby m b) (I : InB as bs alo blo b)
    (hK : ∀ m', (∀ y, y ∉ Zda → m' (S y) = m (S y)) → Zby m' (Zcn (cnd as bs fj false) alo blo b) → KK .next m' hp) :
    EX (model PW W0) B0 (fun _ _ => False) A (callEnv Zdg L 196) (flmS 8) m hp KK := by
  let Iq : Nat → Loc → Hp → Prop := fun n m₂ hp₂ => hp₂ = hp ∧ (∀ y, y ∉ Zda → m₂ (S y) = m (S y)) ∧ ∃ b', Zby m₂ b' ∧ InB as bs alo blo b' ∧ n = (b'.1 - alo).toNat ∧ down (cnd as bs fj false) alo blo n b' = Zcn (cnd as bs fj false) alo blo b
  refine Zdp (Iq) (b.1 - alo).toNat ⟨rfl, fun _ _ => rfl, b, hb, I, rfl, rfl⟩ ?_
  rintro n m₂ hp₂ ⟨rfl, x0, b', ⟨b1, b2, b3⟩, I', rfl, x1⟩
  have F' := F.upd x0
  obtain ⟨h1, h2, h3, h4, h5, h6, h7, l1, l2, i1, i1L, i2, i2L, r1, r2, r3, r4, r5, r6⟩ := F'
  have leave : ¬ (b'.1 > alo ∧ b'.2.1 > blo ∧ cnd as bs fj false (b'.1 - 1) (b'.2.1 - 1) = true) → KK .next m₂ hp₂ := fun hc => by
    refine hK _ x0 ?_
    rw [← x1]
    cases hn : (b'.1 - alo).toNat with
    | zero => exact ⟨b1, b2, b3⟩
    | succ k => rw [Zdy]; rw [if_neg hc]; exact ⟨b1, b2, b3⟩
  refine Zc8 fun KT hKT => ?_
  have out : ¬ (b'.1 > alo ∧ b'.2.1 > blo ∧ cnd as bs fj false (b'.1 - 1) (b'.2.1 - 1) = true) → KT false hp₂ := fun hc => hKT _ _ (if_f (leave hc))
  refine Zaz ?_
  refine Zai ?_
  refine Zad ?_
  refine Zaa (by first | assumption | rfl) ?_
  refine Zaa (by first | assumption | rfl) ?_
  refine Zi4 ?_
  refine Zaf ?_
  by_cases c1 : alo < b'.1
  · refine Zcm c1 ?_
    refine Zai ?_
    refine Zad ?_
    refine Zaa (by first | assumption | rfl) ?_
    refine Zaa (by first | assumption | rfl) ?_
    refine Zi4 ?_
    refine Zaf ?_
    by_cases c2 : blo < b'.2.1
    · refine Zcm c2 ?_
      have ha := I'.a1 c1
      have hb' := I'.b1 c2
      refine Zai (Zk8 (Za9 (Zcj (id := "set.__contains__") (Zaa h7 ⟨ib, j, rfl, i1L, ?_⟩))))
      refine Zab ?_
      refine Zam ?_
      refine Zaa (by first | assumption | rfl) ?_
      refine Zah ?_
      refine Zaa (by first | assumption | rfl) ?_
      refine Zaj ?_
      refine Zb2 ?_
      refine Zaw l2 (by lia) (by lia) (Za8 (by lia) (by lia)) ?_
      refine Zae ?_
      refine ⟨i1, Zin i1 i1L i2 i2L ?_⟩
      refine Zaf ?_
      cases c3 : fj (bs.getD (b'.2.1 - 1).toNat 0) with
      | true =>
        refine Zdd (show (!true) = false from rfl) ?_
        exact out (fun h => by have := h.2.2; unfold cnd at this; rw [c3] at this; simp at this)
      | false =>
        refine Zed (show (!false) = true from rfl) ?_
        refine Zai ?_
        refine Zad ?_
        refine Zam ?_
        refine Zaa (by first | assumption | rfl) ?_
        refine Zah ?_
        refine Zaa (by first | assumption | rfl) ?_
        refine Zaj ?_
        refine Zb2 ?_
        refine Zaw l1 (by lia) (by lia) (Za8 (by lia) (by lia)) ?_
        refine Zam ?_
        refine Zaa (by first | assumption | rfl) ?_
        refine Zah ?_
        refine Zaa (by first | assumption | rfl) ?_
        refine Zaj ?_
        refine Zb2 ?_
        refine Zaw l2 (by lia) (by lia) (Za8 (by lia) (by lia)) ?_
        refine Zco ?_
        refine Zaf ?_
        cases c4 : (as.getD (b'.1 - 1).toNat 0 == bs.getD (b'.2.1 - 1).toNat 0) with
        | false =>
          refine if_f ?_
          exact out (fun h => by have := h.2.2; unfold cnd at this; rw [c4] at this; simp at this)
        | true =>
          refine if_t ?_
          refine Za2 (hKT _ _ ?_)
          refine if_t ?_
          refine Zcp fun KB hKB => ?_
          refine Zac (Zar hh (names := [S "besti", S "bestj", S "bestsize"]) ?_)
          refine Zap ?_
          refine Zab ?_
          refine Zah ?_
          refine Zaa (by first | assumption | rfl) ?_
          refine Zaj ?_
          refine Zb2 ?_
          refine Zab ?_
          refine Zah ?_
          refine Zaa (by first | assumption | rfl) ?_
          refine Zaj ?_
          refine Zb2 ?_
          refine Zab ?_
          refine Zah ?_
          refine Zaa (by first | assumption | rfl) ?_
          refine Zaj ?_
          refine Zat ?_
          refine Zae ?_
          refine ⟨sz rfl, ?_⟩
          refine ⟨_, rfl, rfl, Zal (Zal (Zal (Zaq ?_)))⟩
          refine Zag ?_
          have hc : b'.1 > alo ∧ b'.2.1 > blo ∧ cnd as bs fj false (b'.1 - 1) (b'.2.1 - 1) = true := ⟨c1, c2, by unfold cnd; rw [c3, c4]; rfl⟩
          refine hKB _ _ _ ⟨(b'.1 - 1 - alo).toNat, by (exact Zjn (by assumption)), rfl, fun y hy => ?_, (b'.1 - 1, b'.2.1 - 1, b'.2.2 + 1), ⟨by first | assumption | rfl, by first | assumption | rfl, by first | assumption | rfl⟩, ?_, rfl, ?_⟩
          · exact updO hy (updO hy (updO hy (x0 y hy)))
          · have := I'.k0
            exact ⟨by show alo ≤ b'.1 - 1; lia, by show blo ≤ b'.2.1 - 1; lia, by show 0 ≤ b'.2.2 + 1; lia, fun _ => by show b'.1 - 1 ≤ _; lia, fun _ => by show b'.2.1 - 1 ≤ _; lia⟩
          · rw [← x1]
            have e : (b'.1 - alo).toNat = (b'.1 - 1 - alo).toNat + 1 := by lia
            rw [e]
            conv => rhs; rw [Zdy]
            rw [if_pos hc]
    · refine Zch c2 ?_
      exact out (fun h => c2 h.2.1)
  · refine Zch c1 ?_
    exact out (fun h => c1 h.1)
theorem Zqj {L aA bA ib j : Addr} {as bs : List Int} {fj : Int → Bool} {nj : Nat} {alo ahi blo bhi : Int} {b : Best} {KK : AF → Loc → Hp → Prop} (hh : A.handled = none) (F : FL B0 hp L aA bA ib j as bs fj nj alo ahi blo bhi m) (hb : Zby m b) (I : InB as bs alo blo b)
    (hK : ∀ m', (∀ y, y ∉ Zda → m' (S y) = m (S y)) → Zby m' (Zcn (cnd as bs fj true) alo blo b) → KK .next m' hp) :
    EX (model PW W0) B0 (fun _ _ => False) A (callEnv Zdg L 196) (flmS 10) m hp KK := by
  let Iq : Nat → Loc → Hp → Prop := fun n m₂ hp₂ => hp₂ = hp ∧ (∀ y, y ∉ Zda → m₂ (S y) = m (S y)) ∧ ∃ b', Zby m₂ b' ∧ InB as bs alo blo b' ∧ n = (b'.1 - alo).toNat ∧ down (cnd as bs fj true) alo blo n b' = Zcn (cnd as bs fj true) alo blo b
  refine Zdp (Iq) (b.1 - alo).toNat ⟨rfl, fun _ _ => rfl, b, hb, I, rfl, rfl⟩ ?_
  rintro n m₂ hp₂ ⟨rfl, x0, b', ⟨b1, b2, b3⟩, I', rfl, x1⟩
  have F' := F.upd x0
  obtain ⟨h1, h2, h3, h4, h5, h6, h7, l1, l2, i1, i1L, i2, i2L, r1, r2, r3, r4, r5, r6⟩ := F'
  have leave : ¬ (b'.1 > alo ∧ b'.2.1 > blo ∧ cnd as bs fj true (b'.1 - 1) (b'.2.1 - 1) = true) → KK .next m₂ hp₂ := fun hc => by
    refine hK _ x0 ?_
    rw [← x1]
    cases hn : (b'.1 - alo).toNat with
    | zero => exact ⟨b1, b2, b3⟩
    | succ k => rw [Zdy]; rw [if_neg hc]; exact ⟨b1, b2, b3⟩
  refine Zc8 fun KT hKT => ?_
  have out : ¬ (b'.1 > alo ∧ b'.2.1 > blo ∧ cnd as bs fj true (b'.1 - 1) (b'.2.1 - 1) = true) → KT false hp₂ := fun hc => hKT _ _ (if_f (leave hc))
  refine Zaz ?_
  refine Zai ?_
  refine Zad ?_
  refine Zaa (by first | assumption | rfl) ?_
  refine Zaa (by first | assumption | rfl) ?_
  refine Zi4 ?_
  refine Zaf ?_
  by_cases c1 : alo < b'.1
  · refine Zcm c1 ?_
    refine Zai ?_
    refine Zad ?_
    refine Zaa (by first | assumption | rfl) ?_
    refine Zaa (by first | assumption | rfl) ?_
    refine Zi4 ?_
    refine Zaf ?_
    by_cases c2 : blo < b'.2.1
    · refine Zcm c2 ?_
      have ha := I'.a1 c1
      have hb' := I'.b1 c2
      refine Zai (Za9 (Zcj (id := "set.__contains__") (Zaa h7 ⟨ib, j, rfl, i1L, ?_⟩)))
      refine Zab ?_
      refine Zam ?_
      refine Zaa (by first | assumption | rfl) ?_
      refine Zah ?_
      refine Zaa (by first | assumption | rfl) ?_
      refine Zaj ?_
      refine Zb2 ?_
      refine Zaw l2 (by lia) (by lia) (Za8 (by lia) (by lia)) ?_
      refine Zae ?_
      refine ⟨i1, Zin i1 i1L i2 i2L ?_⟩
      refine Zaf ?_
      cases c3 : fj (bs.getD (b'.2.1 - 1).toNat 0) with
      | false =>
        refine if_f ?_
        exact out (fun h => by have := h.2.2; unfold cnd at this; rw [c3] at this; simp at this)
      | true =>
        refine if_t ?_
        refine Zai ?_
        refine Zad ?_
        refine Zam ?_
        refine Zaa (by first | assumption | rfl) ?_
        refine Zah ?_
        refine Zaa (by first | assumption | rfl) ?_
        refine Zaj ?_
        refine Zb2 ?_
        refine Zaw l1 (by lia) (by lia) (Za8 (by lia) (by lia)) ?_
        refine Zam ?_
        refine Zaa (by first | assumption | rfl) ?_
        refine Zah ?_
        refine Zaa (by first | assumption | rfl) ?_
        refine Zaj ?_
        refine Zb2 ?_
        refine Zaw l2 (by lia) (by lia) (Za8 (by lia) (by lia)) ?_
        refine Zco ?_
        refine Zaf ?_
        cases c4 : (as.getD (b'.1 - 1).toNat 0 == bs.getD (b'.2.1 - 1).toNat 0) with
        | false =>
          refine if_f ?_
          exact out (fun h => by have := h.2.2; unfold cnd at this; rw [c4] at this; simp at this)
        | true =>
          refine if_t ?_
          refine Za2 (hKT _ _ ?_)
          refine if_t ?_
          refine Zcp fun KB hKB => ?_
          refine Zac (Zar hh (names := [S "besti", S "bestj", S "bestsize"]) ?_)
          refine Zap ?_
          refine Zab ?_
          refine Zah ?_
          refine Zaa (by first | assumption | rfl) ?_
          refine Zaj ?_
          refine Zb2 ?_
          refine Zab ?_
          refine Zah ?_
          refine Zaa (by first | assumption | rfl) ?_
          refine Zaj ?_
          refine Zb2 ?_
          refine Zab ?_
          refine Zah ?_
          refine Zaa (by first | assumption | rfl) ?_
          refine Zaj ?_
          refine Zat ?_
          refine Zae ?_
          refine ⟨sz rfl, ?_⟩
          refine ⟨_, rfl, rfl, Zal (Zal (Zal (Zaq ?_)))⟩
          refine Zag ?_
          have hc : b'.1 > alo ∧ b'.2.1 > blo ∧ cnd as bs fj true (b'.1 - 1) (b'.2.1 - 1) = true := ⟨c1, c2, by unfold cnd; rw [c3, c4]; rfl⟩
          refine hKB _ _ _ ⟨(b'.1 - 1 - alo).toNat, by (exact Zjn (by assumption)), rfl, fun y hy => ?_, (b'.1 - 1, b'.2.1 - 1, b'.2.2 + 1), ⟨by first | assumption | rfl, by first | assumption | rfl, by first | assumption | rfl⟩, ?_, rfl, ?_⟩
          · exact updO hy (updO hy (updO hy (x0 y hy)))
          · have := I'.k0
            exact ⟨by show alo ≤ b'.1 - 1; lia, by show blo ≤ b'.2.1 - 1; lia, by show 0 ≤ b'.2.2 + 1; lia, fun _ => by show b'.1 - 1 ≤ _; lia, fun _ => by show b'.2.1 - 1 ≤ _; lia⟩
          · rw [← x1]
            have e : (b'.1 - alo).toNat = (b'.1 - 1 - alo).toNat + 1 := by lia
            rw [e]
            conv => rhs; rw [Zdy]
            rw [if_pos hc]
    · refine Zch c2 ?_
      exact out (fun h => c2 h.2.1)
  · refine Zch c1 ?_
    exact out (fun h => c1 h.1)
theorem Zqk {L aA bA ib j : Addr} {as bs : List Int} {fj : Int → Bool} {nj : Nat} {alo ahi blo bhi : Int} {b : Best} {KK : AF → Loc → Hp → Prop} (F : FL B0 hp L aA bA ib j as bs fj nj alo ahi blo bhi m) (hb : Zby m b) (I : InB as bs alo blo b)
    (hK : ∀ m', (∀ y, y ∉ Zda → m' (S y) = m (S y)) → Zby m' (Zfb (cnd as bs fj false) ahi bhi b) → KK .next m' hp) :
    EX (model PW W0) B0 (fun _ _ => False) A (callEnv Zdg L 196) (flmS 9) m hp KK := by
  let Iq : Nat → Loc → Hp → Prop := fun n m₂ hp₂ => hp₂ = hp ∧ (∀ y, y ∉ Zda → m₂ (S y) = m (S y)) ∧ ∃ b', Zby m₂ b' ∧ InB as bs alo blo b' ∧ n = (ahi - (b'.1 + b'.2.2)).toNat ∧ up (cnd as bs fj false) ahi bhi n b' = Zfb (cnd as bs fj false) ahi bhi b
  refine Zdp (Iq) (ahi - (b.1 + b.2.2)).toNat ⟨rfl, fun _ _ => rfl, b, hb, I, rfl, rfl⟩ ?_
  rintro n m₂ hp₂ ⟨rfl, x0, b', ⟨b1, b2, b3⟩, I', rfl, x1⟩
  have F' := F.upd x0
  obtain ⟨h1, h2, h3, h4, h5, h6, h7, l1, l2, i1, i1L, i2, i2L, r1, r2, r3, r4, r5, r6⟩ := F'
  have leave : ¬ (b'.1 + b'.2.2 < ahi ∧ b'.2.1 + b'.2.2 < bhi ∧ cnd as bs fj false (b'.1 + b'.2.2) (b'.2.1 + b'.2.2) = true) → KK .next m₂ hp₂ := fun hc => by
    refine hK _ x0 ?_
    rw [← x1]
    cases hn : (ahi - (b'.1 + b'.2.2)).toNat with
    | zero => exact ⟨b1, b2, b3⟩
    | succ k => rw [up_s]; rw [if_neg hc]; exact ⟨b1, b2, b3⟩
  refine Zc8 fun KT hKT => ?_
  have out : ¬ (b'.1 + b'.2.2 < ahi ∧ b'.2.1 + b'.2.2 < bhi ∧ cnd as bs fj false (b'.1 + b'.2.2) (b'.2.1 + b'.2.2) = true) → KT false hp₂ := fun hc => hKT _ _ (if_f (leave hc))
  refine Zaz ?_
  refine Zai ?_
  refine Zad ?_
  refine Zah ?_
  refine Zaa (by first | assumption | rfl) ?_
  refine Zaa (by first | assumption | rfl) ?_
  refine Zat ?_
  refine Zaa (by first | assumption | rfl) ?_
  refine Zcu ?_
  refine Zaf ?_
  by_cases c1 : b'.1 + b'.2.2 < ahi
  · refine Zcm c1 ?_
    refine Zai ?_
    refine Zad ?_
    refine Zah ?_
    refine Zaa (by first | assumption | rfl) ?_
    refine Zaa (by first | assumption | rfl) ?_
    refine Zat ?_
    refine Zaa (by first | assumption | rfl) ?_
    refine Zcu ?_
    refine Zaf ?_
    by_cases c2 : b'.2.1 + b'.2.2 < bhi
    · refine Zcm c2 ?_
      have ha := I'.a0
      have hb' := I'.b0
      have hk := I'.k0
      refine Zai (Zk8 (Za9 (Zcj (id := "set.__contains__") (Zaa h7 ⟨ib, j, rfl, i1L, ?_⟩))))
      refine Zab ?_
      refine Zam ?_
      refine Zaa (by first | assumption | rfl) ?_
      refine Zah ?_
      refine Zaa (by first | assumption | rfl) ?_
      refine Zaa (by first | assumption | rfl) ?_
      refine Zat ?_
      refine Zaw l2 (by lia) (by lia) (Za8 (by lia) (by (exact Int.lt_of_lt_of_le (by assumption) (by assumption)))) ?_
      refine Zae ?_
      refine ⟨i1, Zin i1 i1L i2 i2L ?_⟩
      refine Zaf ?_
      cases c3 : fj (bs.getD (b'.2.1 + b'.2.2).toNat 0) with
      | true =>
        refine Zdd (show (!true) = false from rfl) ?_
        exact out (fun h => by have := h.2.2; unfold cnd at this; rw [c3] at this; simp at this)
      | false =>
        refine Zed (show (!false) = true from rfl) ?_
        refine Zai ?_
        refine Zad ?_
        refine Zam ?_
        refine Zaa (by first | assumption | rfl) ?_
        refine Zah ?_
        refine Zaa (by first | assumption | rfl) ?_
        refine Zaa (by first | assumption | rfl) ?_
        refine Zat ?_
        refine Zaw l1 (by lia) (by lia) (Za8 (by lia) (by (exact Int.lt_of_lt_of_le (by assumption) (by assumption)))) ?_
        refine Zam ?_
        refine Zaa (by first | assumption | rfl) ?_
        refine Zah ?_
        refine Zaa (by first | assumption | rfl) ?_
        refine Zaa (by first | assumption | rfl) ?_
        refine Zat ?_
        refine Zaw l2 (by lia) (by lia) (Za8 (by lia) (by (exact Int.lt_of_lt_of_le (by assumption) (by assumption)))) ?_
        refine Zco ?_
        refine Zaf ?_
        cases c4 : (as.getD (b'.1 + b'.2.2).toNat 0 == bs.getD (b'.2.1 + b'.2.2).toNat 0) with
        | false =>
          refine if_f ?_
          exact out (fun h => by have := h.2.2; unfold cnd at this; rw [c4] at this; simp at this)
        | true =>
          refine if_t ?_
          refine Za2 (hKT _ _ ?_)
          refine if_t ?_
          refine Zcp fun KB hKB => ?_
          refine Zac ?_
          refine Zd0 (by first | assumption | rfl) ?_
          refine Zaj ?_
          refine Zlc ?_
          refine Zag ?_
          have hc : b'.1 + b'.2.2 < ahi ∧ b'.2.1 + b'.2.2 < bhi ∧ cnd as bs fj false (b'.1 + b'.2.2) (b'.2.1 + b'.2.2) = true := ⟨c1, c2, by unfold cnd; rw [c3, c4]; rfl⟩
          refine hKB _ _ _ ⟨(ahi - (b'.1 + (b'.2.2 + 1))).toNat, by lia, rfl, fun y hy => ?_, (b'.1, b'.2.1, b'.2.2 + 1), ⟨by first | assumption | rfl, by first | assumption | rfl, by first | assumption | rfl⟩, ?_, rfl, ?_⟩
          · exact updO hy (x0 y hy)
          · exact ⟨I'.a0, I'.b0, by show 0 ≤ b'.2.2 + 1; lia, I'.a1, I'.b1⟩
          · rw [← x1]
            have e : (ahi - (b'.1 + b'.2.2)).toNat = (ahi - (b'.1 + (b'.2.2 + 1))).toNat + 1 := by lia
            rw [e]
            conv => rhs; rw [up_s]
            rw [if_pos hc]
    · refine Zch c2 ?_
      exact out (fun h => c2 h.2.1)
  · refine Zch c1 ?_
    exact out (fun h => c1 h.1)
theorem Zqi {L aA bA ib j : Addr} {as bs : List Int} {fj : Int → Bool} {nj : Nat} {alo ahi blo bhi : Int} {b : Best} {KK : AF → Loc → Hp → Prop} (F : FL B0 hp L aA bA ib j as bs fj nj alo ahi blo bhi m) (hb : Zby m b) (I : InB as bs alo blo b)
    (hK : ∀ m', (∀ y, y ∉ Zda → m' (S y) = m (S y)) → Zby m' (Zfb (cnd as bs fj true) ahi bhi b) → KK .next m' hp) :
    EX (model PW W0) B0 (fun _ _ => False) A (callEnv Zdg L 196) (flmS 11) m hp KK := by
  let Iq : Nat → Loc → Hp → Prop := fun n m₂ hp₂ => hp₂ = hp ∧ (∀ y, y ∉ Zda → m₂ (S y) = m (S y)) ∧ ∃ b', Zby m₂ b' ∧ InB as bs alo blo b' ∧ n = (ahi - (b'.1 + b'.2.2)).toNat ∧ up (cnd as bs fj true) ahi bhi n b' = Zfb (cnd as bs fj true) ahi bhi b
  refine Zdp (Iq) (ahi - (b.1 + b.2.2)).toNat ⟨rfl, fun _ _ => rfl, b, hb, I, rfl, rfl⟩ ?_
  rintro n m₂ hp₂ ⟨rfl, x0, b', ⟨b1, b2, b3⟩, I', rfl, x1⟩
  have F' := F.upd x0
  obtain ⟨h1, h2, h3, h4, h5, h6, h7, l1, l2, i1, i1L, i2, i2L, r1, r2, r3, r4, r5, r6⟩ := F'
  have leave : ¬ (b'.1 + b'.2.2 < ahi ∧ b'.2.1 + b'.2.2 < bhi ∧ cnd as bs fj true (b'.1 + b'.2.2) (b'.2.1 + b'.2.2) = true) → KK .next m₂ hp₂ := fun hc => by
    refine hK _ x0 ?_
    rw [← x1]
    cases hn : (ahi - (b'.1 + b'.2.2)).toNat with
    | zero => exact ⟨b1, b2, b3⟩
    | succ k => rw [up_s]; rw [if_neg hc]; exact ⟨b1, b2, b3⟩
  refine Zc8 fun KT hKT => ?_
  have out : ¬ (b'.1 + b'.2.2 < ahi ∧ b'.2.1 + b'.2.2 < bhi ∧ cnd as bs fj true (b'.1 + b'.2.2) (b'.2.1 + b'.2.2) = true) → KT false hp₂ := fun hc => hKT _ _ (if_f (leave hc))
  refine Zaz ?_
  refine Zai ?_
  refine Zad ?_
  refine Zah ?_
  refine Zaa (by first | assumption | rfl) ?_
  refine Zaa (by first | assumption | rfl) ?_
  refine Zat ?_
  refine Zaa (by first | assumption | rfl) ?_
  refine Zcu ?_
  refine Zaf ?_
  by_cases c1 : b'.1 + b'.2.2 < ahi
  · refine Zcm c1 ?_
    refine Zai ?_
    refine Zad ?_
    refine Zah ?_
    refine Zaa (by first | assumption | rfl) ?_
    refine Zaa (by first | assumption | rfl) ?_
    refine Zat ?_
    refine Zaa (by first | assumption | rfl) ?_
    refine Zcu ?_
    refine Zaf ?_
    by_cases c2 : b'.2.1 + b'.2.2 < bhi
    · refine Zcm c2 ?_
      have ha := I'.a0
      have hb' := I'.b0
      have hk := I'.k0
      refine Zai (Za9 (Zcj (id := "set.__contains__") (Zaa h7 ⟨ib, j, rfl, i1L, ?_⟩)))
      refine Zab ?_
      refine Zam ?_
      refine Zaa (by first | assumption | rfl) ?_
      refine Zah ?_
      refine Zaa (by first | assumption | rfl) ?_
      refine Zaa (by first | assumption | rfl) ?_
      refine Zat ?_
      refine Zaw l2 (by lia) (by lia) (Za8 (by lia) (by (exact Int.lt_of_lt_of_le (by assumption) (by assumption)))) ?_
      refine Zae ?_
      refine ⟨i1, Zin i1 i1L i2 i2L ?_⟩
      refine Zaf ?_
      cases c3 : fj (bs.getD (b'.2.1 + b'.2.2).toNat 0) with
      | false =>
        refine if_f ?_
        exact out (fun h => by have := h.2.2; unfold cnd at this; rw [c3] at this; simp at this)
      | true =>
        refine if_t ?_
        refine Zai ?_
        refine Zad ?_
        refine Zam ?_
        refine Zaa (by first | assumption | rfl) ?_
        refine Zah ?_
        refine Zaa (by first | assumption | rfl) ?_
        refine Zaa (by first | assumption | rfl) ?_
        refine Zat ?_
        refine Zaw l1 (by lia) (by lia) (Za8 (by lia) (by (exact Int.lt_of_lt_of_le (by assumption) (by assumption)))) ?_
        refine Zam ?_
        refine Zaa (by first | assumption | rfl) ?_
        refine Zah ?_
        refine Zaa (by first | assumption | rfl) ?_
        refine Zaa (by first | assumption | rfl) ?_
        refine Zat ?_
        refine Zaw l2 (by lia) (by lia) (Za8 (by lia) (by (exact Int.lt_of_lt_of_le (by assumption) (by assumption)))) ?_
        refine Zco ?_
        refine Zaf ?_
        cases c4 : (as.getD (b'.1 + b'.2.2).toNat 0 == bs.getD (b'.2.1 + b'.2.2).toNat 0) with
        | false =>
          refine if_f ?_
          exact out (fun h => by have := h.2.2; unfold cnd at this; rw [c4] at this; simp at this)
        | true =>
          refine if_t ?_
          refine Za2 (hKT _ _ ?_)
          refine if_t ?_
          refine Zcp fun KB hKB => ?_
          refine Zac ?_
          refine Zao ?_
          refine Zah ?_
          refine Zaa (by first | assumption | rfl) ?_
          refine Zaj ?_
          refine Zat ?_
          refine Zag ?_
          have hc : b'.1 + b'.2.2 < ahi ∧ b'.2.1 + b'.2.2 < bhi ∧ cnd as bs fj true (b'.1 + b'.2.2) (b'.2.1 + b'.2.2) = true := ⟨c1, c2, by unfold cnd; rw [c3, c4]; rfl⟩
          refine hKB _ _ _ ⟨(ahi - (b'.1 + (b'.2.2 + 1))).toNat, by lia, rfl, fun y hy => ?_, (b'.1, b'.2.1, b'.2.2 + 1), ⟨by first | assumption | rfl, by first | assumption | rfl, by first | assumption | rfl⟩, ?_, rfl, ?_⟩
          · exact updO hy (x0 y hy)
          · exact ⟨I'.a0, I'.b0, by show 0 ≤ b'.2.2 + 1; lia, I'.a1, I'.b1⟩
          · rw [← x1]
            have e : (ahi - (b'.1 + b'.2.2)).toNat = (ahi - (b'.1 + (b'.2.2 + 1))).toNat + 1 := by lia
            rw [e]
            conv => rhs; rw [up_s]
            rw [if_pos hc]
    · refine Zch c2 ?_
      exact out (fun h => c2 h.2.1)
  · refine Zch c1 ?_
    exact out (fun h => c1 h.1)
end
noncomputable def MJ (as : List Int) (J : Int → List Nat) (p q : Int) : Prop := ∃ j ∈ J (as.getD p.toNat 0), (j : Int) = q
open Classical in
noncomputable def LL (M : Int → Int → Prop) (alo blo bhi : Int) : Nat → Int → Int
  | 0, _ => 0
  | n + 1, j => if blo ≤ j ∧ j < bhi ∧ M (alo + n) j then LL M alo blo bhi n (j - 1) + 1 else 0
theorem LL_z {M : Int → Int → Prop} {alo blo bhi j : Int} : LL M alo blo bhi 0 j = 0 := rfl
open Classical in
theorem LL_s {M : Int → Int → Prop} {alo blo bhi j : Int} {n : Nat} : LL M alo blo bhi (n + 1) j = if blo ≤ j ∧ j < bhi ∧ M (alo + n) j then LL M alo blo bhi n (j - 1) + 1 else 0 := rfl
theorem Zel {M : Int → Int → Prop} {alo blo bhi : Int} : ∀ (n : Nat) (j : Int), 0 ≤ LL M alo blo bhi n j
  | 0, j => by simp [LL_z]
  | n + 1, j => by
    have := Zel (M := M) (alo := alo) (blo := blo) (bhi := bhi) n (j - 1)
    rw [LL_s]; split <;> lia
theorem Zqw {M : Int → Int → Prop} {alo blo bhi : Int} : ∀ (n : Nat) (j : Int), LL M alo blo bhi n j ≤ n
  | 0, j => by simp [LL_z]
  | n + 1, j => by
    have := Zqw (M := M) (alo := alo) (blo := blo) (bhi := bhi) n (j - 1)
    rw [LL_s]; split <;> lia
theorem Zqx {M : Int → Int → Prop} {alo blo bhi : Int} : ∀ (n : Nat) (j t : Int), 0 ≤ t → t < LL M alo blo bhi n j → M (alo + n - 1 - t) (j - t) ∧ blo ≤ j - t ∧ j < bhi
  | 0, j, t, h0, h1 => by simp [LL_z] at h1; omega
  | n + 1, j, t, h0, h1 => by
    rw [LL_s] at h1
    split at h1
    · rename_i hc
      by_cases ht : t = 0
      · subst ht
        refine ⟨?_, by lia, hc.2.1⟩
        have e1 : alo + ((n + 1 : Nat) : Int) - 1 - 0 = alo + n := by lia
        have e2 : j - 0 = j := by lia
        rw [e1, e2]; exact hc.2.2
      · have := Zqx (M := M) (alo := alo) (blo := blo) (bhi := bhi) n (j - 1) (t - 1) (by lia) (by omega)
        have e1 : alo + ((n + 1 : Nat) : Int) - 1 - t = alo + n - 1 - (t - 1) := by lia
        have e2 : j - t = j - 1 - (t - 1) := by lia
        rw [e1, e2]; exact ⟨this.1, by omega, hc.2.1⟩
    · omega
theorem Zqy {M : Int → Int → Prop} {alo blo bhi : Int} : ∀ (n : Nat) (j k : Int), k ≤ n → blo ≤ j - k + 1 → j < bhi → (∀ t, 0 ≤ t → t < k → M (alo + n - 1 - t) (j - t)) → k ≤ LL M alo blo bhi n j
  | 0, j, k, h1, _, _, _ => by simp [LL_z]; omega
  | n + 1, j, k, h1, h2, h3, h => by
    by_cases hk : k ≤ 0
    · exact Int.le_trans hk (Zel _ _)
    · have h0 := h 0 (by (exact Int.natCast_nonneg _)) (by (exact Int.not_le.mp (by assumption)))
      have e1 : alo + ((n + 1 : Nat) : Int) - 1 - 0 = alo + n := by lia
      have e2 : j - 0 = j := by lia
      rw [e1, e2] at h0
      have := Zqy (M := M) (alo := alo) (blo := blo) (bhi := bhi) n (j - 1) (k - 1) (by lia) (by lia) (by lia) fun t ht0 ht1 => by
        have := h (t + 1) (by lia) (by lia)
        have e1 : alo + ((n + 1 : Nat) : Int) - 1 - (t + 1) = alo + n - 1 - t := by lia
        have e2 : j - (t + 1) = j - 1 - t := by lia
        rw [e1, e2] at this; exact this
      rw [LL_s]
      rw [if_pos ⟨by lia, h3, h0⟩]
      lia
theorem Zfn {i blo bhi : Int} {f : Int → Int} : ∀ {js : List Nat} {st : FSt}, js.Pairwise (· < ·) → Zds i blo bhi f js st = (js.filter fun (j : Nat) => decide (blo ≤ (j : Int)) && decide ((j : Int) < bhi)).foldl (fun st (j : Nat) => innS i f st (j : Int)) st
  | [], st, _ => rfl
  | j :: js, st, hp => by
    rw [List.pairwise_cons] at hp
    rw [inner_s]
    by_cases h1 : (j : Int) < blo
    · rw [if_pos h1, Zfn hp.2, List.filter_cons_of_neg (by simp; lia)]
    · rw [if_neg h1]
      by_cases h2 : (j : Int) ≥ bhi
      · rw [if_pos h2, List.filter_cons_of_neg (by simp; lia)]
        have : js.filter (fun (j : Nat) => decide (blo ≤ (j : Int)) && decide ((j : Int) < bhi)) = [] := by
          rw [List.filter_eq_nil_iff]
          intro a ha
          have := hp.1 a ha
          simp; lia
        rw [this]; rfl
      · rw [if_neg h2, Zfn hp.2, List.filter_cons_of_pos (by simp; omega), List.foldl_cons]
noncomputable def BInv (alo blo : Int) (D : Int → Int → Prop) (V : Int → Int → Int) (b : Best) : Prop :=
  (b = (alo, blo, 0) ∧ ∀ r j, ¬ D r j) ∨
  (0 < b.2.2 ∧ D (b.1 + b.2.2 - 1) (b.2.1 + b.2.2 - 1) ∧ V (b.1 + b.2.2 - 1) (b.2.1 + b.2.2 - 1) = b.2.2 ∧ ∀ r j, D r j → V r j ≤ b.2.2 ∧ (V r j = b.2.2 → b.1 + b.2.2 - 1 < r ∨ (b.1 + b.2.2 - 1 = r ∧ b.2.1 + b.2.2 - 1 ≤ j)))
theorem BInv.congr {alo blo : Int} {D D' : Int → Int → Prop} {V : Int → Int → Int} {b : Best} (h : BInv alo blo D V b) (e : ∀ r j, D' r j ↔ D r j) : BInv alo blo D' V b := by
  have : D' = D := by funext r j; exact propext (e r j)
  rw [this]; exact h
theorem Zh7 {alo blo r0 : Int} {f : Int → Int} {V : Int → Int → Int} : ∀ {js : List Nat} {D : Int → Int → Prop} {g : Int → Int} {b : Best}, js.Pairwise (· < ·) → (∀ j ∈ js, V r0 (j : Int) = f ((j : Int) - 1) + 1) → (∀ x, 0 ≤ f x) → (∀ r j, D r j → r < r0 ∨ (r = r0 ∧ ∀ j' ∈ js, j < (j' : Int))) → BInv alo blo D V b →
    BInv alo blo (fun r j => D r j ∨ (r = r0 ∧ ∃ j' ∈ js, (j' : Int) = j)) V (js.foldl (fun st (j : Nat) => innS r0 f st (j : Int)) (g, b)).2 ∧
    ∀ x, (js.foldl (fun st (j : Nat) => innS r0 f st (j : Int)) (g, b)).1 x = if ∃ j' ∈ js, ((j' : Nat) : Int) = x then f (x - 1) + 1 else g x
  | [], D, g, b, _, _, _, _, h => ⟨h.congr fun r j => by simp, fun x => by simp⟩
  | j :: js, D, g, b, hp, hV, hf, hD, h => by
    rw [List.pairwise_cons] at hp
    rw [List.foldl_cons]
    have hv := hV j (.head _)
    have hf0 := hf ((j : Int) - 1)
    have h' : BInv alo blo (fun r j' => D r j' ∨ (r = r0 ∧ j' = (j : Int))) V (innS r0 f (g, b) (j : Int)).2 := by
      unfold innS
      dsimp only
      rcases h with ⟨rfl, hno⟩ | ⟨h0, h1, h2, h3⟩
      · rw [if_pos (by show f ((j : Int) - 1) + 1 > 0; omega)]
        refine .inr ⟨by show 0 < f ((j : Int) - 1) + 1; omega, ?_, ?_, ?_⟩
        · right; exact ⟨rk _ _, rk _ _⟩
        · show V (r0 - (f ((j : Int) - 1) + 1) + 1 + (f ((j : Int) - 1) + 1) - 1) ((j : Int) - (f ((j : Int) - 1) + 1) + 1 + (f ((j : Int) - 1) + 1) - 1) = f ((j : Int) - 1) + 1
          have e1 : r0 - (f ((j : Int) - 1) + 1) + 1 + (f ((j : Int) - 1) + 1) - 1 = r0 := rk _ _
          have e2 : (j : Int) - (f ((j : Int) - 1) + 1) + 1 + (f ((j : Int) - 1) + 1) - 1 = j := rk _ _
          rw [e1, e2]; exact hv
        · rintro r j' (hd | ⟨rfl, rfl⟩)
          · exact absurd hd (hno r j')
          · exact ⟨by rw [hv]; exact Int.le_refl _, fun _ => .inr ⟨rk _ _, Int.le_of_eq (rk _ _)⟩⟩
      · by_cases hgt : f ((j : Int) - 1) + 1 > b.2.2
        · rw [if_pos hgt]
          refine .inr ⟨by show 0 < f ((j : Int) - 1) + 1; (exact Int.lt_trans (by assumption) (by assumption)), ?_, ?_, ?_⟩
          · right; exact ⟨rk _ _, rk _ _⟩
          · show V (r0 - (f ((j : Int) - 1) + 1) + 1 + (f ((j : Int) - 1) + 1) - 1) ((j : Int) - (f ((j : Int) - 1) + 1) + 1 + (f ((j : Int) - 1) + 1) - 1) = f ((j : Int) - 1) + 1
            have e1 : r0 - (f ((j : Int) - 1) + 1) + 1 + (f ((j : Int) - 1) + 1) - 1 = r0 := rk _ _
            have e2 : (j : Int) - (f ((j : Int) - 1) + 1) + 1 + (f ((j : Int) - 1) + 1) - 1 = j := rk _ _
            rw [e1, e2]; exact hv
          · rintro r j' (hd | ⟨rfl, rfl⟩)
            · have := (h3 r j' hd).1
              refine ⟨by show V r j' ≤ f ((j : Int) - 1) + 1; lia, fun e => ?_⟩
              have e' : V r j' = f ((j : Int) - 1) + 1 := e
              omega
            · exact ⟨by rw [hv]; exact Int.le_refl _, fun _ => .inr ⟨rk _ _, Int.le_of_eq (rk _ _)⟩⟩
        · rw [if_neg hgt]
          refine .inr ⟨h0, .inl h1, h2, ?_⟩
          rintro r j' (hd | ⟨rfl, rfl⟩)
          · exact h3 r j' hd
          · refine ⟨by lia, fun _ => ?_⟩
            rcases hD _ _ h1 with hlt | ⟨he, hlt⟩
            · exact .inl hlt
            · exact .inr ⟨he, Int.le_of_lt (hlt j (.head _))⟩
    have ih := Zh7 (alo := alo) (blo := blo) (r0 := r0) (f := f) (V := V) (js := js) (D := fun r j' => D r j' ∨ (r = r0 ∧ j' = (j : Int))) (g := (innS r0 f (g, b) (j : Int)).1) (b := (innS r0 f (g, b) (j : Int)).2) hp.2 (fun j' hj' => hV j' (.tail _ hj')) hf ?_ h'
    · refine ⟨ih.1.congr fun r j' => ?_, fun x => ?_⟩
      · simp only [List.mem_cons, exists_eq_or_imp]
        constructor
        · rintro (a | ⟨a, b | b⟩)
          · exact .inl (.inl a)
          · exact .inl (.inr ⟨a, b.symm⟩)
          · exact .inr ⟨a, b⟩
        · rintro ((a | ⟨a, b⟩) | ⟨a, b⟩)
          · exact .inl a
          · exact .inr ⟨a, .inl b.symm⟩
          · exact .inr ⟨a, .inr b⟩
      · rw [ih.2 x]
        by_cases hx : ∃ j' ∈ js, ((j' : Nat) : Int) = x
        · rw [if_pos hx, if_pos]
          obtain ⟨j', a, b⟩ := hx; exact ⟨j', .tail _ a, b⟩
        · rw [if_neg hx]
          show (if x = (j : Int) then f ((j : Int) - 1) + 1 else g x) = _
          by_cases hxj : x = (j : Int)
          · rw [if_pos hxj, if_pos ⟨j, .head _, hxj.symm⟩, hxj]
          · rw [if_neg hxj, if_neg]
            rintro ⟨j', a, b⟩
            rcases List.mem_cons.mp a with rfl | a
            · exact hxj b.symm
            · exact hx ⟨j', a, b⟩
    · rintro r j' (hd | ⟨rfl, rfl⟩)
      · rcases hD r j' hd with hlt | ⟨he, hlt⟩
        · exact .inl hlt
        · exact .inr ⟨he, fun j'' hj'' => hlt j'' (.tail _ hj'')⟩
      · exact .inr ⟨rfl, fun j'' hj'' => by have := hp.1 j'' hj''; (exact Int.ofNat_lt.mpr (by assumption))⟩
theorem Zhx {as : List Int} {J : Int → List Nat} {alo blo bhi : Int} (hJ : ∀ x, (J x).Pairwise (· < ·)) : ∀ n : Nat, (∀ x, (outS as J alo blo bhi n).1 x = LL (MJ as J) alo blo bhi n x) ∧
    BInv alo blo (fun r j => alo ≤ r ∧ r < alo + n ∧ blo ≤ j ∧ j < bhi ∧ MJ as J r j) (fun r j => LL (MJ as J) alo blo bhi (r - alo + 1).toNat j) (outS as J alo blo bhi n).2
  | 0 => ⟨fun x => rfl, .inl ⟨rfl, fun r j h => by have := h.1; have := h.2.1; omega⟩⟩
  | n + 1 => by
    have ih := Zhx (as := as) (alo := alo) (blo := blo) (bhi := bhi) hJ n
    rw [Zpx, Zfn (hJ _)]
    have mem : ∀ x : Int, (∃ j' ∈ (J (as.getD (alo + n).toNat 0)).filter (fun (j : Nat) => decide (blo ≤ (j : Int)) && decide ((j : Int) < bhi)), ((j' : Nat) : Int) = x) ↔ (blo ≤ x ∧ x < bhi ∧ MJ as J (alo + n) x) := fun x => by
      constructor
      · rintro ⟨j', hm, rfl⟩
        rw [List.mem_filter, Bool.and_eq_true, decide_eq_true_iff, decide_eq_true_iff] at hm
        exact ⟨hm.2.1, hm.2.2, j', hm.1, rfl⟩
      · rintro ⟨h1, h2, j', hm, rfl⟩
        refine ⟨j', ?_, rfl⟩
        rw [List.mem_filter, Bool.and_eq_true, decide_eq_true_iff, decide_eq_true_iff]
        exact ⟨hm, h1, h2⟩
    have hn : (alo + (n : Int) - alo + 1).toNat = n + 1 := by lia
    have F := Zh7 (alo := alo) (blo := blo) (r0 := alo + n) (f := (outS as J alo blo bhi n).1) (V := fun r j => LL (MJ as J) alo blo bhi (r - alo + 1).toNat j) (js := (J (as.getD (alo + n).toNat 0)).filter (fun (j : Nat) => decide (blo ≤ (j : Int)) && decide ((j : Int) < bhi)))
      (D := fun r j => alo ≤ r ∧ r < alo + n ∧ blo ≤ j ∧ j < bhi ∧ MJ as J r j) (g := fun _ => 0) (b := (outS as J alo blo bhi n).2) ((hJ _).filter _) (fun j hj => ?_) (fun x => by rw [ih.1]; exact Zel _ _) (fun r j h => .inl h.2.1) ih.2
    · refine ⟨fun x => ?_, F.1.congr fun r j => ?_⟩
      · rw [F.2 x, LL_s]
        by_cases hx : blo ≤ x ∧ x < bhi ∧ MJ as J (alo + n) x
        · rw [if_pos ((mem x).mpr hx), if_pos hx, ih.1]
        · rw [if_neg (fun h => hx ((mem x).mp h)), if_neg hx]
      · rw [mem j]
        constructor
        · rintro ⟨h1, h2, h3, h4, h5⟩
          by_cases hr : r < alo + n
          · exact .inl ⟨h1, hr, h3, h4, h5⟩
          · have : r = alo + n := by lia
            subst this
            exact .inr ⟨rfl, h3, h4, h5⟩
        · rintro (⟨h1, h2, h3, h4, h5⟩ | ⟨rfl, h3, h4, h5⟩)
          · exact ⟨h1, by lia, h3, h4, h5⟩
          · exact ⟨by lia, by lia, h3, h4, h5⟩
    · rw [hn, LL_s, if_pos ((mem _).mp ⟨j, hj, rfl⟩), ih.1]
structure Common (M : Int → Int → Prop) (alo ahi blo bhi i j k : Int) : Prop where
  a0 : alo ≤ i
  a1 : i + k ≤ ahi
  b0 : blo ≤ j
  b1 : j + k ≤ bhi
  k0 : 0 ≤ k
  eq : ∀ t, 0 ≤ t → t < k → M (i + t) (j + t)
structure Longest (M : Int → Int → Prop) (alo ahi blo bhi : Int) (b : Best) : Prop where
  k0 : 0 ≤ b.2.2
  zero : b.2.2 = 0 → b = (alo, blo, 0)
  com : 0 < b.2.2 → Common M alo ahi blo bhi b.1 b.2.1 b.2.2
  max : ∀ i j k, Common M alo ahi blo bhi i j k → k ≤ b.2.2 ∧ (k = b.2.2 → 0 < k → b.1 < i ∨ (b.1 = i ∧ b.2.1 ≤ j))
theorem Zbv {as : List Int} {J : Int → List Nat} {alo ahi blo bhi : Int} (hJ : ∀ x, (J x).Pairwise (· < ·)) : Longest (MJ as J) alo ahi blo bhi (outS as J alo blo bhi (ahi - alo).toNat).2 := by
  have I := (Zhx (as := as) (alo := alo) (blo := blo) (bhi := bhi) hJ (ahi - alo).toNat).2
  generalize (outS as J alo blo bhi (ahi - alo).toNat).2 = b at I
  have last : ∀ i j k, Common (MJ as J) alo ahi blo bhi i j k → 0 < k → (alo ≤ i + k - 1 ∧ i + k - 1 < alo + ((ahi - alo).toNat : Nat) ∧ blo ≤ j + k - 1 ∧ j + k - 1 < bhi ∧ MJ as J (i + k - 1) (j + k - 1)) ∧ k ≤ LL (MJ as J) alo blo bhi (i + k - 1 - alo + 1).toNat (j + k - 1) := fun i j k c hk => by
    have := c.a0; have := c.a1; have := c.b0; have := c.b1
    have e := c.eq (k - 1) (by lia) (by lia)
    have e1 : i + (k - 1) = i + k - 1 := by lia
    have e2 : j + (k - 1) = j + k - 1 := by lia
    rw [e1, e2] at e
    refine ⟨⟨by lia, by lia, by lia, by lia, e⟩, Zqy _ _ _ (by lia) (by lia) (by lia) fun t h0 h1 => ?_⟩
    have := c.eq (k - 1 - t) (by lia) (by lia)
    have e3 : alo + (((i + k - 1 - alo + 1).toNat : Nat) : Int) - 1 - t = i + (k - 1 - t) := by lia
    have e4 : j + k - 1 - t = j + (k - 1 - t) := by lia
    rw [e3, e4]; exact this
  rcases I with ⟨rfl, hno⟩ | ⟨h0, h1, h2, h3⟩
  · refine ⟨Int.le_refl _, fun _ => rfl, fun h => absurd h (Int.lt_irrefl _), fun i j k c => ?_⟩
    by_cases hk : 0 < k
    · exact absurd (last i j k c hk).1 (hno _ _)
    · exact ⟨by show k ≤ 0; (exact Int.not_lt.mp (by assumption)), fun _ h => absurd h hk⟩
  · refine ⟨by (exact Int.le_of_lt (by assumption)), fun e => by lia, fun _ => ?_, fun i j k c => ?_⟩
    · have hle := Zqw (M := MJ as J) (alo := alo) (blo := blo) (bhi := bhi) (b.1 + b.2.2 - 1 - alo + 1).toNat (b.2.1 + b.2.2 - 1)
      have hin := fun t a c => Zqx (M := MJ as J) (alo := alo) (blo := blo) (bhi := bhi) (b.1 + b.2.2 - 1 - alo + 1).toNat (b.2.1 + b.2.2 - 1) t a c
      dsimp only at h2
      rw [h2] at hle
      simp only [h2] at hin
      obtain ⟨g1, g2, g3, g4, g5⟩ := h1
      have hb := (hin (b.2.2 - 1) (by lia) (by lia)).2.1
      refine ⟨by lia, by lia, by lia, by lia, by (exact Int.le_of_lt (by assumption)), fun t ht0 ht1 => ?_⟩
      have := (hin (b.2.2 - 1 - t) (by lia) (by lia)).1
      have e3 : alo + (((b.1 + b.2.2 - 1 - alo + 1).toNat : Nat) : Int) - 1 - (b.2.2 - 1 - t) = b.1 + t := by lia
      have e4 : b.2.1 + b.2.2 - 1 - (b.2.2 - 1 - t) = b.2.1 + t := by lia
      rw [e3, e4] at this; exact this
    · by_cases hk : 0 < k
      · obtain ⟨l1, l2⟩ := last i j k c hk
        have l3 := h3 _ _ l1
        dsimp only at l3
        refine ⟨Int.le_trans l2 l3.1, fun e _ => ?_⟩
        have l4 : LL (MJ as J) alo blo bhi (i + k - 1 - alo + 1).toNat (j + k - 1) = b.2.2 := by
          have := l3.1
          lia
        rcases l3.2 l4 with x | ⟨x, y⟩
        · left; lia
        · right; lia
      · exact ⟨by lia, fun _ h => absurd h hk⟩
theorem Zh4 (bs : List Int) (x : Int) : (idxN bs x).Pairwise (· < ·) := List.Pairwise.filter _ List.pairwise_lt_range
theorem Zlh {as bs : List Int} {p q : Int} : MJ as (idxN bs) p q ↔ 0 ≤ q ∧ q < bs.length ∧ bs.getD q.toNat 0 = as.getD p.toNat 0 := by
  unfold MJ idxN
  constructor
  · rintro ⟨j, hj, rfl⟩
    rw [List.mem_filter, List.mem_range, beq_iff_eq] at hj
    refine ⟨by (exact Int.natCast_nonneg _), by lia, ?_⟩
    rw [Int.toNat_natCast, List.getD_eq_getElem?_getD, hj.2]; rfl
  · rintro ⟨h0, h1, h2⟩
    refine ⟨q.toNat, ?_, by (exact Ziq (by assumption))⟩
    rw [List.mem_filter, List.mem_range, beq_iff_eq]
    refine ⟨by (exact Zcd (by assumption) (by assumption)), ?_⟩
    rw [← h2, List.getD_eq_getElem?_getD, List.getElem?_eq_getElem (by (exact Zcd (by assumption) (by assumption)))]; rfl
theorem Longest.inB {as bs : List Int} {alo ahi blo bhi : Int} {M : Int → Int → Prop} {b : Best} (h : Longest M alo ahi blo bhi b) (ha : ahi ≤ as.length) (hb : bhi ≤ bs.length) : InB as bs alo blo b := by
  have hk := h.k0
  by_cases h0 : b.2.2 = 0
  · have := h.zero h0
    rw [this]
    exact ⟨Int.le_refl _, Int.le_refl _, Int.le_refl _, fun h => absurd h (Int.lt_irrefl _), fun h => absurd h (Int.lt_irrefl _)⟩
  · have c := h.com (by lia)
    have := c.a0; have := c.a1; have := c.b0; have := c.b1
    exact ⟨by omega, by omega, hk, fun _ => by lia, fun _ => by lia⟩
theorem Zky {c : Int → Int → Bool} {alo blo : Int} {n : Nat} {b : Best} (h : ¬ (b.1 > alo ∧ b.2.1 > blo ∧ c (b.1 - 1) (b.2.1 - 1) = true)) : down c alo blo n b = b := by cases n with | zero => rfl | succ n => rw [Zdy]; rw [if_neg h]
theorem Zpp {c : Int → Int → Bool} {ahi bhi : Int} {n : Nat} {b : Best} (h : ¬ (b.1 + b.2.2 < ahi ∧ b.2.1 + b.2.2 < bhi ∧ c (b.1 + b.2.2) (b.2.1 + b.2.2) = true)) : up c ahi bhi n b = b := by cases n with | zero => rfl | succ n => rw [up_s]; rw [if_neg h]
theorem Zow {as bs : List Int} {alo ahi blo bhi : Int} (hb0 : 0 ≤ blo) (hb : bhi ≤ bs.length) : flmF as bs (idxN bs) (fun _ => false) alo ahi blo bhi = (outS as (idxN bs) alo blo bhi (ahi - alo).toNat).2 := by
  have Lg := Zbv (as := as) (alo := alo) (ahi := ahi) (blo := blo) (bhi := bhi) (Zh4 bs)
  unfold flmF
  generalize (outS as (idxN bs) alo blo bhi (ahi - alo).toNat).2 = b at *
  have hk := Lg.k0
  have e1 : Zcn (cnd as bs (fun _ => false) false) alo blo b = b := Zky fun ⟨h1, h2, h3⟩ => by
    have hpos : 0 < b.2.2 := by
      rcases Int.lt_or_eq_of_le hk with h | h
      · exact h
      · have := Lg.zero h.symm; rw [this] at h1; exact absurd h1 (Int.lt_irrefl _)
    have c := Lg.com hpos
    have := c.a0; have := c.a1; have := c.b0; have := c.b1
    have := (Lg.max (b.1 - 1) (b.2.1 - 1) (b.2.2 + 1) ⟨by omega, by lia, by omega, by lia, by lia, fun t h0 h1' => ?_⟩).1
    · lia
    · by_cases ht : t = 0
      · subst ht
        have x1 : b.1 - 1 + 0 = b.1 - 1 := by lia
        have x2 : b.2.1 - 1 + 0 = b.2.1 - 1 := by lia
        rw [x1, x2, Zlh]
        simp only [cnd, beq_self_eq_true, Bool.true_and, beq_iff_eq] at h3
        exact ⟨by lia, by lia, h3.symm⟩
      · have := c.eq (t - 1) (by lia) (by lia)
        have x1 : b.1 + (t - 1) = b.1 - 1 + t := by lia
        have x2 : b.2.1 + (t - 1) = b.2.1 - 1 + t := by lia
        rw [x1, x2] at this; exact this
  have e2 : Zfb (cnd as bs (fun _ => false) false) ahi bhi b = b := Zpp fun ⟨h1, h2, h3⟩ => by
    have hc : alo ≤ b.1 ∧ blo ≤ b.2.1 ∧ ∀ t, 0 ≤ t → t < b.2.2 → MJ as (idxN bs) (b.1 + t) (b.2.1 + t) := by
      by_cases h0 : b.2.2 = 0
      · have := Lg.zero h0
        rw [this]
        exact ⟨Int.le_refl _, Int.le_refl _, fun t a c => absurd (show t < 0 from c) (by lia)⟩
      · have c := Lg.com (by lia)
        exact ⟨c.a0, c.b0, c.eq⟩
    have := (Lg.max b.1 b.2.1 (b.2.2 + 1) ⟨hc.1, by lia, hc.2.1, by lia, by lia, fun t h0 h1' => ?_⟩).1
    · lia
    · by_cases ht : t = b.2.2
      · subst ht
        rw [Zlh]
        simp only [cnd, beq_self_eq_true, Bool.true_and, beq_iff_eq] at h3
        exact ⟨by lia, by (exact Int.lt_of_lt_of_le (by assumption) (by assumption)), h3.symm⟩
      · exact hc.2.2 t h0 (by lia)
  have e3 : Zcn (cnd as bs (fun _ => false) true) alo blo b = b := Zky fun ⟨_, _, h3⟩ => by simp [cnd] at h3
  have e4 : Zfb (cnd as bs (fun _ => false) true) ahi bhi b = b := Zpp fun ⟨_, _, h3⟩ => by simp [cnd] at h3
  rw [e1, e2, e3, e4]
theorem Zga {as bs : List Int} {alo ahi blo bhi : Int} (hb0 : 0 ≤ blo) (hb : bhi ≤ bs.length) : Longest (MJ as (idxN bs)) alo ahi blo bhi (flmF as bs (idxN bs) (fun _ => false) alo ahi blo bhi) := by
  rw [Zow hb0 hb]; exact Zbv (Zh4 bs)
theorem matK (W0 : World) : MatK PW W0 (KW W0) where
  call := by kernel_rfl
  typ := by kernel_rfl
  made := by kernel_rfl
  chk _ := by kernel_rfl
  mro := by kernel_rfl
  here := by kernel_rfl
  isty := by kernel_rfl
  self := by kernel_rfl
  top := by kernel_rfl
  tup := by kernel_rfl
  init := by kernel_rfl
  reads := by kernel_rfl
  find := by kernel_rfl
  sm := by kernel_rfl
  tnew := by kernel_rfl
  del := ⟨_, _, _, _, rfl, by kernel_rfl⟩
section
variable {A : Around} {env : Env} {m : Loc} {hp : Hp}
theorem Znq {a b c : AV} {Q : AV → Hp → Prop} (G : Gnd (KW W0) B0) (hroom : A.depth + 1 < recursionLimit) (h : Q (.mat [a, b, c]) hp) : CL (model PW W0) B0 E0 A env (.ref 135) m [a, b, c] hp Q := by
  refine Zq6 G (matK W0) fun vs0 => ?_
  refine Ze0 (bs := [(S "size", c), (S "b", b), (S "a", a), (S "_cls", .ref 135)]) (body := Zbm (inS (topS PW 3) 4)) G (Zrs W0) (by kernel_rfl) rfl (by show A.depth + 1 < _; omega) (fun s vs hv _ => ?_) (by kernel_rfl) (by decide) (fun L hL hLe => ?_)
  · refine hide fun Gq kq => ?_
    obtain ⟨v, u, z, y, rfl, h1, h2, h3, h4⟩ := Zm7 hv
    refine kq ?_; clear kq Gq
    exact ⟨[(S "_cls", v), (S "a", u), (S "b", z), (S "size", y)], BindsTo.of_eq rfl, rfl, .mk h4 (.mk h3 (.mk h2 (.mk h1 .nil)))⟩
  · have g0 : Za0 [(S "size", c), (S "b", b), (S "a", a), (S "_cls", .ref 135)] (S "_cls") = some (.ref 135) := rfl
    have g1 : Za0 [(S "size", c), (S "b", b), (S "a", a), (S "_cls", .ref 135)] (S "a") = some a := rfl
    have g2 : Za0 [(S "size", c), (S "b", b), (S "a", a), (S "_cls", .ref 135)] (S "b") = some b := rfl
    have g3 : Za0 [(S "size", c), (S "b", b), (S "a", a), (S "_cls", .ref 135)] (S "size") = some c := rfl
    generalize hm0 : Za0 [(S "size", c), (S "b", b), (S "a", a), (S "_cls", .ref 135)] = m0 at *
    refine Zac (Zdo ?_)
    refine Zac (Za6 (Zlp G (matK W0) (Zay G (Zhy W0) Zgi (by decide) (fun _ => Zdl) ⟨rfl, Zab (Zaa g0 (Zab (Zap (Zab (Zaa g1 (Zab (Zaa g2 (Zab (Zaa g3 (Zae ⟨sz rfl, Zae (Zlu G (matK W0) (sz rfl) ?_)⟩))))))))))⟩)))
    exact Zhu hL ⟨⟨_, rfl⟩, h⟩
theorem Zq7 {x dx aA bA : Addr} {mb op : AV} {as bs : List Int} {aj : Bool} {alo ahi blo bhi : Int} {Q : AV → Hp → Prop} (G : Gnd (KW W0) B0) (hh : A.handled = none) (hroom : A.depth + 3 < recursionLimit) (MM : MT hp env.locals x dx (.ref aA) (.ref bA) bs aj mb op) (la : Lst B0 hp env.locals aA (as.map .int)) (lb : Lst B0 hp env.locals bA (bs.map .int))
    (ha0 : 0 ≤ alo) (haa : alo < 2 ^ 62) (ha1 : ahi ≤ as.length) (haz : -(2 ^ 62) ≤ ahi) (hb0 : 0 ≤ blo) (hb1 : bhi ≤ bs.length) (hla : as.length ≤ 4000) (hlb : bs.length ≤ 4000)
    (h : Q (triV (flmF as bs (PJ bs aj) (fun _ => false) alo ahi blo bhi)) hp) :
    CL (model PW W0) B0 E0 A env (.ref 196) m [.ref x, .int alo, .int ahi, .int blo, .int bhi] hp Q := by
  obtain ⟨ma, d, j, I, F, R, hj, hjL⟩ := MM.ex
  refine CD.cl (Ze0 (bs := [(S "bhi", .int bhi), (S "blo", .int blo), (S "ahi", .int ahi), (S "alo", .int alo), (S "self", .ref x)]) (body := Zbm (mS 6)) G (kFlm W0) (by kernel_rfl) rfl (by (exact ul0 (by assumption))) (fun s vs hv hk => ?_) (by kernel_rfl) (by decide) (fun L hL hLe => ?_))
  · obtain ⟨v, u, z, y, t, rfl, h1, h2, h3, h4, h5⟩ := Zie hv
    exact ⟨[(S "self", v), (S "alo", u), (S "ahi", z), (S "blo", y), (S "bhi", t)], binds_K (G.X.keeps hk) rfl (by rfl) rfl rfl rfl, rfl, .mk h5 (.mk h4 (.mk h3 (.mk h2 (.mk h1 .nil))))⟩
  · have I' : Ins (hp.set env.locals (.ns m)) L x dx 242 ma := I.call hL
    have la' : Lst B0 (hp.set env.locals (.ns m)) L aA (as.map .int) := la.call hL
    have lb' : Lst B0 (hp.set env.locals (.ns m)) L bA (bs.map .int) := lb.call hL
    have R' : JD (hp.set env.locals (.ns m)) L d (PJ bs aj) := R.move (fun z o e _ hz => ⟨Hp.snt hz e, Hp.ne_of e hL⟩)
    have hj' : (hp.set env.locals (.ns m)) j = some (.set (fun _ => false) 0) := Hp.snt hjL hj
    have hjL' : j ≠ L := Hp.ne_of hj hL
    have g0 : Za0 [(S "bhi", AV.int bhi), (S "blo", .int blo), (S "ahi", .int ahi), (S "alo", .int alo), (S "self", .ref x)] (S "self") = some (.ref x) := rfl
    have g1 : Za0 [(S "bhi", AV.int bhi), (S "blo", .int blo), (S "ahi", .int ahi), (S "alo", .int alo), (S "self", .ref x)] (S "alo") = some (.int alo) := rfl
    have g2 : Za0 [(S "bhi", AV.int bhi), (S "blo", .int blo), (S "ahi", .int ahi), (S "alo", .int alo), (S "self", .ref x)] (S "ahi") = some (.int ahi) := rfl
    have g3 : Za0 [(S "bhi", AV.int bhi), (S "blo", .int blo), (S "ahi", .int ahi), (S "alo", .int alo), (S "self", .ref x)] (S "blo") = some (.int blo) := rfl
    have g4 : Za0 [(S "bhi", AV.int bhi), (S "blo", .int blo), (S "ahi", .int ahi), (S "alo", .int alo), (S "self", .ref x)] (S "bhi") = some (.int bhi) := rfl
    generalize hm0 : Za0 [(S "bhi", AV.int bhi), (S "blo", .int blo), (S "ahi", .int ahi), (S "alo", .int alo), (S "self", .ref x)] = m0 at *
    have hq0 : Hp.Le (hp.set env.locals (.ns m)) (hp.set env.locals (.ns m)) := .refl _
    generalize hq : hp.set env.locals (.ns m) = hp1 at I' la' lb' R' hj' hq0 ⊢
    refine Zac (Zdo ?_)
    refine Zac (Zcz (Zap (Zab (Zbp G g0 I' F.a (Zab (Zbp G g0 I' F.b ?_))))))
    refine Zab (Zbp G g0 I' F.b2j (Zab ?_))
    refine Zlr Zk2 (fun ho hc h => Zfk ho hc h) (Zbp G g0 I' F.bj ⟨j, rfl, Zkj hj' hjL', fun ib hib hibL => Zae ⟨sz rfl, ?_⟩⟩)
    refine Zb5 hh rfl rfl rfl (Zan (Zak (Zan (Zak (Zan (Zak (Zan (Zak (Zaq ?_)))))))))
    have le1 : Hp.Le hp1 (hp1.set ib (.obj (Zbc "set.__contains__" j))) := (Hp.Le.refl _).set hib _
    try dsimp only
    generalize hm1 : upd (upd (upd (upd m0 _ _) _ _) _ _) _ _ = m1
    have k1 : m1 (S "alo") = some (.int alo) := by subst hm1; (first | assumption | rfl)
    have k2 : m1 (S "ahi") = some (.int ahi) := by subst hm1; (first | assumption | rfl)
    have k3 : m1 (S "blo") = some (.int blo) := by subst hm1; (first | assumption | rfl)
    have k4 : m1 (S "bhi") = some (.int bhi) := by subst hm1; (first | assumption | rfl)
    have k5 : m1 (S "a") = some (.ref aA) := by subst hm1; (first | assumption | rfl)
    have k6 : m1 (S "b") = some (.ref bA) := by subst hm1; (first | assumption | rfl)
    have k7 : m1 (S "b2j") = some (.ref d) := by subst hm1; (first | assumption | rfl)
    have k8 : m1 (S "isbjunk") = some (.ref ib) := by subst hm1; (first | assumption | rfl)
    clear hm1 g0 g1 g2 g3 g4
    refine Zac (Za4 (Zad (Zaa k2 (Zcv (Zdn (Zaf (Zag ?_)))))))
    refine Zac (Za4 (Zad (Zaa k4 (Zcv (Zdn (Zaf (Zag ?_)))))))
    refine Zac (Zar hh (names := [S "besti", S "bestj", S "bestsize"]) (Zap (Zab (Zaa k1 (Zab (Zaa k3 (Zab (Zaj (Zae ⟨sz rfl, _, rfl, rfl, Zal (Zal (Zal (Zaq ?_)))⟩)))))))))
    refine Zac (Zao (Zfz fun d0 hd0 hd0L => ?_))
    refine Zac (Zao (Zbq (Zae ⟨Nat.zero_le _, fun nt hnt hntL => ?_⟩)))
    have le2 : Hp.Le hp1 (((hp1.set ib (.obj (Zbc "set.__contains__" j))).set d0 (.dict [])).set nt (.list [])) := (le1.set (le1.none hd0) _).set ((le1.set (le1.none hd0) _).none hnt) _
    dsimp only
    generalize hm2 : upd (upd (upd (upd (upd m1 _ _) _ _) _ _) _ _) _ _ = m2
    have p1 : m2 (S "alo") = some (.int alo) := by subst hm2; (first | assumption | rfl)
    have p2 : m2 (S "ahi") = some (.int ahi) := by subst hm2; (first | assumption | rfl)
    have p3 : m2 (S "blo") = some (.int blo) := by subst hm2; (first | assumption | rfl)
    have p4 : m2 (S "bhi") = some (.int bhi) := by subst hm2; (first | assumption | rfl)
    have p5 : m2 (S "a") = some (.ref aA) := by subst hm2; (first | assumption | rfl)
    have p6 : m2 (S "b") = some (.ref bA) := by subst hm2; (first | assumption | rfl)
    have p7 : m2 (S "b2j") = some (.ref d) := by subst hm2; (first | assumption | rfl)
    have p8 : m2 (S "isbjunk") = some (.ref ib) := by subst hm2; (first | assumption | rfl)
    have p9 : m2 (S "j2len") = some (.ref d0) := by subst hm2; (first | assumption | rfl)
    have p10 : m2 (S "nothing") = some (.ref nt) := by subst hm2; (first | assumption | rfl)
    have p11 : Zby m2 (alo, blo, 0) := by subst hm2; exact ⟨by first | assumption | rfl, by first | assumption | rfl, by first | assumption | rfl⟩
    clear hm2 k1 k2 k3 k4 k5 k6 k7 k8
    have hd0' : d0 ≠ nt := Hp.ne_of (Hp.ss ..) hnt
    have hibd : ib ≠ d0 := Hp.ne_of (Hp.ss ..) hd0
    have hibn : ib ≠ nt := Hp.ne_of (show ((hp1.set ib (.obj (Zbc "set.__contains__" j))).set d0 (.dict [])) ib = some _ by rw [Hp.sn _ _ hibd]; exact Hp.ss ..) hnt
    have hib2 : (((hp1.set ib (.obj (Zbc "set.__contains__" j))).set d0 (.dict [])).set nt (.list [])) ib = some (.obj (Zbc "set.__contains__" j)) := Hp.snt hibn (Hp.snt hibd (Hp.ss ..))
    have hd02 : (((hp1.set ib (.obj (Zbc "set.__contains__" j))).set d0 (.dict [])).set nt (.list [])) d0 = some (.dict []) := Hp.snt hd0' (Hp.ss ..)
    have hnt2 : (((hp1.set ib (.obj (Zbc "set.__contains__" j))).set d0 (.dict [])).set nt (.list [])) nt = some (.list []) := Hp.ss ..
    generalize ((hp1.set ib (.obj (Zbc "set.__contains__" j))).set d0 (.dict [])).set nt (.list []) = hp2 at le2 hib2 hd02 hnt2 ⊢
    have hJl : ∀ x, (PJ bs aj x).length ≤ 4000 := fun x => Nat.le_trans (Zqr _ _ _) hlb
    have Lg := Zbv (as := as) (alo := alo) (ahi := ahi) (blo := blo) (bhi := bhi) (Zla bs aj)
    have IB := Lg.inB ha1 hb1
    refine Zac (Zkq (A := A.deeper (callEnv Zdg L 196)) (J := PJ bs aj) G hh p1 p2 p3 p4 p11 p7 p5 p10 p9 hd02 hd0L (R'.le le2) (la'.le le2) hnt2 hntL ha0 ha1 haa (by omega) haz hJl fun m3 hp3 x1 x2 x3 => ?_)
    have le3 := le2.trans x3
    have FF : FL B0 hp3 L aA bA ib j as bs (fun _ => false) 0 alo ahi blo bhi m3 := ⟨by rw [x1 _ (by decide)]; exact p1, by rw [x1 _ (by decide)]; exact p2, by rw [x1 _ (by decide)]; exact p3, by rw [x1 _ (by decide)]; exact p4, by rw [x1 _ (by decide)]; exact p5, by rw [x1 _ (by decide)]; exact p6, by rw [x1 _ (by decide)]; exact p8, la'.le le3, lb'.le le3, x3 _ _ hib2, hibL, le3 _ _ hj', hjL', ha0, hb0, ha1, hb1, by omega, by omega⟩
    refine Zac (Zql (A := A.deeper (callEnv Zdg L 196)) hh FF x2 IB fun m4 y1 y2 => ?_)
    have FF2 := FF.upd y1
    refine Zac (Zqk (A := A.deeper (callEnv Zdg L 196)) FF2 y2 IB.down fun m5 z1 z2 => ?_)
    have FF3 := FF2.upd z1
    refine Zac (Zqj (A := A.deeper (callEnv Zdg L 196)) hh FF3 z2 IB.down.up fun m6 u1 u2 => ?_)
    have FF4 := FF3.upd u1
    refine Zac (Zqi (A := A.deeper (callEnv Zdg L 196)) FF4 u2 IB.down.up.down fun m7 v1 v2 => ?_)
    obtain ⟨b1, b2, b3⟩ := v2
    refine Zac (Za6 (Zno G (f := 135) (by kernel_rfl) (Zeq G (Zkp W0) (fun _ => VR_ref) ⟨rfl, Zab (Zaa b1 (Zab (Zaa b2 (Zab (Zaa b3 (Zae ?_))))))⟩)))
    refine Znq (A := A.deeper (callEnv Zdg L 196)) G (by show A.depth + 1 + 1 < _; (exact Nat.lt_of_succ_lt (by assumption))) ?_
    refine Zpv (hp₂ := hp) (by rw [hq]; exact le3) hL ?_
    exact h
end
noncomputable abbrev Win := Int × Int × Int × Int
structure WOK (F : Win → Tri) (la lb : Int) : Prop where
  k0 : ∀ W0, 0 ≤ (F W0).2.2
  inn : ∀ W0 : Win, 0 ≤ W0.1 → W0.1 ≤ W0.2.1 → W0.2.1 ≤ la → 0 ≤ W0.2.2.1 → W0.2.2.1 ≤ W0.2.2.2 → W0.2.2.2 ≤ lb → 0 < (F W0).2.2 →
    W0.1 ≤ (F W0).1 ∧ (F W0).1 + (F W0).2.2 ≤ W0.2.1 ∧ W0.2.2.1 ≤ (F W0).2.1 ∧ (F W0).2.1 + (F W0).2.2 ≤ W0.2.2.2
noncomputable def Zc9 (la lb : Int) (W0 : Win) : Prop := 0 ≤ W0.1 ∧ W0.1 ≤ W0.2.1 ∧ W0.2.1 ≤ la ∧ 0 ≤ W0.2.2.1 ∧ W0.2.2.1 ≤ W0.2.2.2 ∧ W0.2.2.2 ≤ lb
noncomputable def Zbx (W0 : Win) (t : Tri) : List Win := if W0.1 < t.1 ∧ W0.2.2.1 < t.2.1 then [(W0.1, t.1, W0.2.2.1, t.2.1)] else []
noncomputable def Zbe (W0 : Win) (t : Tri) : List Win := if t.1 + t.2.2 < W0.2.1 ∧ t.2.1 + t.2.2 < W0.2.2.2 then [(t.1 + t.2.2, W0.2.1, t.2.1 + t.2.2, W0.2.2.2)] else []
noncomputable def mbGo (F : Win → Tri) : Nat → List Win → List Tri → List Tri
  | 0, _, acc => acc
  | _ + 1, [], acc => acc
  | n + 1, W0 :: st, acc => if (F W0).2.2 = 0 then mbGo F n st acc else mbGo F n (Zbe W0 (F W0) ++ (Zbx W0 (F W0) ++ st)) (acc ++ [F W0])
theorem Zh1 {F : Win → Tri} {n : Nat} {W0 : Win} {st : List Win} {acc : List Tri} : mbGo F (n + 1) (W0 :: st) acc = if (F W0).2.2 = 0 then mbGo F n st acc else mbGo F n (Zbe W0 (F W0) ++ (Zbx W0 (F W0) ++ st)) (acc ++ [F W0]) := rfl
theorem Znu {F : Win → Tri} {n : Nat} {acc : List Tri} : mbGo F n [] acc = acc := by cases n <;> rfl
noncomputable def wt (W0 : Win) : Nat := 2 * (W0.2.1 - W0.1).toNat + 1
noncomputable def wts (st : List Win) : Nat := (st.map wt).sum
noncomputable def rawB (F : Win → Tri) (la lb : Int) : List Tri := mbGo F (wt (0, la, 0, lb)) [(0, la, 0, lb)] []
theorem Zbl (W0 : Win) (st : List Win) : wts (W0 :: st) = wt W0 + wts st := by simp [wts]
theorem wts_app (a b : List Win) : wts (a ++ b) = wts a + wts b := by simp [wts]
section
variable {F : Win → Tri} {la lb : Int}
theorem Zcl (K : WOK F la lb) {W0 : Win} (h : Zc9 la lb W0) (hk : 0 < (F W0).2.2) : ∀ x ∈ Zbx W0 (F W0), Zc9 la lb x ∧ x.2.1 = (F W0).1 ∧ W0.1 = x.1 := fun x hx => by
  refine hide fun Gq kq => ?_
  obtain ⟨h1, h2, h3, h4, h5, h6⟩ := h
  obtain ⟨a, b, c, d⟩ := K.inn W0 h1 h2 h3 h4 h5 h6 hk
  refine kq ?_; clear kq Gq
  unfold Zbx at hx
  split at hx
  · rw [List.mem_singleton] at hx; subst hx
    refine ⟨⟨h1, ?_, ?_, h4, ?_, ?_⟩, rfl, rfl⟩ <;> dsimp only <;> lia
  · cases hx
theorem Zcf (K : WOK F la lb) {W0 : Win} (h : Zc9 la lb W0) (hk : 0 < (F W0).2.2) : ∀ x ∈ Zbe W0 (F W0), Zc9 la lb x ∧ x.1 = (F W0).1 + (F W0).2.2 ∧ x.2.1 = W0.2.1 := fun x hx => by
  refine hide fun Gq kq => ?_
  obtain ⟨h1, h2, h3, h4, h5, h6⟩ := h
  obtain ⟨a, b, c, d⟩ := K.inn W0 h1 h2 h3 h4 h5 h6 hk
  refine kq ?_; clear kq Gq
  unfold Zbe at hx
  split at hx
  · rw [List.mem_singleton] at hx; subst hx
    refine ⟨⟨?_, ?_, h3, ?_, ?_, h6⟩, rfl, rfl⟩ <;> dsimp only <;> lia
  · cases hx
theorem Zf1 (W0 : Win) (t : Tri) : wts (Zbx W0 t) ≤ 2 * (t.1 - W0.1).toNat + 1 ∧ (t.1 ≤ W0.1 → wts (Zbx W0 t) = 0) := by
  unfold Zbx
  split
  · refine ⟨by simp [wts, wt], fun h => by lia⟩
  · refine ⟨by simp [wts], fun _ => rfl⟩
theorem Zip (W0 : Win) (t : Tri) : wts (Zbe W0 t) ≤ 2 * (W0.2.1 - (t.1 + t.2.2)).toNat + 1 := by
  unfold Zbe
  split
  · simp [wts, wt]
  · simp [wts]
theorem Zfa (K : WOK F la lb) {W0 : Win} (h : Zc9 la lb W0) (hk : 0 < (F W0).2.2) : wts (Zbe W0 (F W0)) + wts (Zbx W0 (F W0)) < wt W0 := by
  refine hide fun Gq kq => ?_
  obtain ⟨h1, h2, h3, h4, h5, h6⟩ := h
  obtain ⟨a, b, c, d⟩ := K.inn W0 h1 h2 h3 h4 h5 h6 hk
  refine kq ?_; clear kq Gq
  have l := (Zf1 W0 (F W0)).1
  have r := Zip W0 (F W0)
  unfold wt
  refine Nat.lt_of_le_of_lt (Nat.add_le_add r l) ?_
  clear l r
  lia
theorem Zdc (K : WOK F la lb) : ∀ n (st : List Win) acc, (∀ W0 ∈ st, Zc9 la lb W0) → wts st ≤ n → ∀ n', wts st ≤ n' → mbGo F n st acc = mbGo F n' st acc
  | 0, st, acc, hin, hn, n', hn' => by
    cases st with
    | nil => cases n' <;> rfl
    | cons W0 st => rw [Zbl] at hn; unfold wt at hn; lia
  | n + 1, [], acc, hin, hn, n', hn' => by cases n' <;> rfl
  | n + 1, W0 :: st, acc, hin, hn, n', hn' => by
    have hw := hin W0 (.head _)
    rw [Zbl] at hn hn'
    have h1 : 1 ≤ wt W0 := by unfold wt; (exact Nat.succ_pos _)
    obtain ⟨m, rfl⟩ : ∃ m, n' = m + 1 := ⟨n' - 1, by lia⟩
    have hst : ∀ x ∈ st, Zc9 la lb x := fun x hx => hin x (.tail _ hx)
    rw [Zh1, Zh1]
    by_cases hk : (F W0).2.2 = 0
    · rw [if_pos hk, if_pos hk]
      exact Zdc K n st acc hst (by lia) m (by lia)
    · rw [if_neg hk, if_neg hk]
      have hk' : 0 < (F W0).2.2 := by have := K.k0 W0; lia
      have hl := Zfa K hw hk'
      refine Zdc K n _ _ (fun x hx => ?_) (by rw [wts_app, wts_app]; lia) m (by rw [wts_app, wts_app]; lia)
      rcases List.mem_append.mp hx with hx | hx
      · exact (Zcf K hw hk' x hx).1
      · rcases List.mem_append.mp hx with hx | hx
        · exact (Zcl K hw hk' x hx).1
        · exact hst x hx
structure Apart (st : List Win) (acc : List Tri) : Prop where
  ww : st.Pairwise (fun x y => x.2.1 ≤ y.1 ∨ y.2.1 ≤ x.1)
  wb : ∀ x ∈ st, ∀ t ∈ acc, t.1 < x.1 ∨ x.2.1 ≤ t.1
  nd : acc.Nodup
theorem Apart.tail {W0 : Win} {st : List Win} {acc : List Tri} (h : Apart (W0 :: st) acc) : Apart st acc := ⟨(List.pairwise_cons.mp h.ww).2, fun x hx => h.wb x (.tail _ hx), h.nd⟩
theorem Apart.step (K : WOK F la lb) {W0 : Win} {st : List Win} {acc : List Tri} (hw : Zc9 la lb W0) (h : Apart (W0 :: st) acc) (hk : 0 < (F W0).2.2) : Apart (Zbe W0 (F W0) ++ (Zbx W0 (F W0) ++ st)) (acc ++ [F W0]) := by
  have hww := List.pairwise_cons.mp h.ww
  obtain ⟨h1, h2, h3, h4, h5, h6⟩ := id hw
  obtain ⟨a, b, c, d⟩ := K.inn W0 h1 h2 h3 h4 h5 h6 hk
  have single : ∀ l : List Win, l.length ≤ 1 → l.Pairwise (fun x y => x.2.1 ≤ y.1 ∨ y.2.1 ≤ x.1) := fun l hl => by
    match l, hl with
    | [], _ => exact List.Pairwise.nil
    | [x], _ => exact List.pairwise_singleton _ _
    | _ :: _ :: _, hl => simp at hl
  have ll : (Zbx W0 (F W0)).length ≤ 1 := by unfold Zbx; split <;> simp
  have rl : (Zbe W0 (F W0)).length ≤ 1 := by unfold Zbe; split <;> simp
  refine ⟨List.pairwise_append.mpr ⟨single _ rl, List.pairwise_append.mpr ⟨single _ ll, hww.2, fun x hx y hy => ?_⟩, fun x hx y hy => ?_⟩, fun x hx t ht => ?_, ?_⟩
  · have := Zcl K hw hk x hx
    have := hww.1 y hy
    lia
  · have e := Zcf K hw hk x hx
    rcases List.mem_append.mp hy with hy | hy
    · have := Zcl K hw hk y hy
      lia
    · have := hww.1 y hy
      lia
  · rcases List.mem_append.mp ht with ht | ht
    · have wb := h.wb W0 (.head _) t ht
      rcases List.mem_append.mp hx with hx | hx
      · have e := Zcf K hw hk x hx; lia
      · rcases List.mem_append.mp hx with hx | hx
        · have e := Zcl K hw hk x hx; lia
        · exact h.wb x (.tail _ hx) t ht
    · rw [List.mem_singleton] at ht; subst ht
      rcases List.mem_append.mp hx with hx | hx
      · have e := Zcf K hw hk x hx; lia
      · rcases List.mem_append.mp hx with hx | hx
        · have e := Zcl K hw hk x hx; lia
        · have := hww.1 x hx; lia
  · refine List.nodup_append.mpr ⟨h.nd, by simp, fun t ht t' ht' e => ?_⟩
    rw [List.mem_singleton] at ht'
    have := h.wb W0 (.head _) t ht
    rw [e, ht'] at this
    lia
end
noncomputable def leT (x y : Tri) : Bool := !lexB y x
noncomputable def Zg5 (xs : List Tri) : List Tri := xs.mergeSort leT
theorem Zkf (a b c : Tri) (h1 : leT a b = true) (h2 : leT b c = true) : leT a c = true := by
  unfold leT at *
  simp only [Bool.not_eq_true'] at *
  cases h : lexB c a with
  | false => rfl
  | true =>
    by_cases e : b = a
    · rw [← e, h2] at h; exact h.symm
    · rw [← h2, Zcx h (Zdr h1 e)]
theorem Zkg (a b : Tri) : (leT a b || leT b a) = true := by
  unfold leT
  cases h : lexB b a with
  | false => rfl
  | true =>
    cases h2 : lexB a b with
    | false => rfl
    | true => have := Zcx h h2; rw [Zea] at this; cases this
theorem Zce (xs : List Tri) : (Zg5 xs).Perm xs := List.mergeSort_perm xs leT
theorem Zhs {xs : List Tri} (nd : xs.Nodup) : (Zg5 xs).Pairwise (fun a b => lexB a b = true) := by
  have h := List.pairwise_mergeSort (le := leT) Zkf Zkg xs
  have nd' : (Zg5 xs).Nodup := (Zce xs).nodup_iff.mpr nd
  refine (List.Pairwise.and h nd').imp fun {a b} ⟨h1, h2⟩ => ?_
  unfold leT at h1
  simp only [Bool.not_eq_true'] at h1
  exact Zdr h1 (Ne.symm h2)
theorem Zmc {xs ys : List Tri} (nd : xs.Nodup) (p : ys.Perm xs) (h : ys.Pairwise (fun a b => lexB a b = true)) : ys = Zg5 xs := Zms (p.trans (Zce xs).symm) h (Zhs nd)
noncomputable abbrev MSt := Tri × List Tri
noncomputable def stepM (st : MSt) (b : Tri) : MSt :=
  if st.1.1 + st.1.2.2 = b.1 ∧ st.1.2.1 + st.1.2.2 = b.2.1 then ((st.1.1, st.1.2.1, st.1.2.2 + b.2.2), st.2)
  else (b, if st.1.2.2 = 0 then st.2 else st.2 ++ [st.1])
noncomputable def stM (bl : List Tri) (k : Nat) : MSt := (bl.take k).foldl stepM ((0, 0, 0), [])
noncomputable def Zka (bl : List Tri) (la lb : Int) : List Tri :=
  (if (stM bl bl.length).1.2.2 = 0 then (stM bl bl.length).2 else (stM bl bl.length).2 ++ [(stM bl bl.length).1]) ++ [(la, lb, 0)]
noncomputable def mbF (F : Win → Tri) (la lb : Int) : List Tri := Zka (Zg5 (rawB F la lb)) la lb
noncomputable def flmW (as bs : List Int) (aj : Bool) (x : Win) : Tri := flmF as bs (PJ bs aj) (fun _ => false) x.1 x.2.1 x.2.2.1 x.2.2.2
structure InWn (alo ahi blo bhi : Int) (b : Best) : Prop where
  a0 : alo ≤ b.1
  a1 : b.1 + b.2.2 ≤ ahi
  b0 : blo ≤ b.2.1
  b1 : b.2.1 + b.2.2 ≤ bhi
theorem InWn.down {alo ahi blo bhi : Int} {c : Int → Int → Bool} : ∀ {n : Nat} {b : Best}, InWn alo ahi blo bhi b → InWn alo ahi blo bhi (Mine.down c alo blo n b)
  | 0, b, h => h
  | n + 1, b, h => by
    rw [Zdy]
    obtain ⟨h1, h2, h3, h4⟩ := h
    split
    · rename_i hc
      refine InWn.down ⟨?_, ?_, ?_, ?_⟩ <;> dsimp only <;> lia
    · exact ⟨h1, h2, h3, h4⟩
theorem InWn.up {alo ahi blo bhi : Int} {c : Int → Int → Bool} : ∀ {n : Nat} {b : Best}, InWn alo ahi blo bhi b → InWn alo ahi blo bhi (Mine.up c ahi bhi n b)
  | 0, b, h => h
  | n + 1, b, h => by
    rw [up_s]
    obtain ⟨h1, h2, h3, h4⟩ := h
    split
    · rename_i hc
      refine InWn.up ⟨?_, ?_, ?_, ?_⟩ <;> dsimp only <;> omega
    · exact ⟨h1, h2, h3, h4⟩
theorem Zkx {c : Int → Int → Bool} {alo blo : Int} : ∀ (n : Nat) (b : Best), b.2.2 ≤ (down c alo blo n b).2.2
  | 0, b => Int.le_refl _
  | n + 1, b => by
    rw [Zdy]
    split
    · have := Zkx (c := c) (alo := alo) (blo := blo) n (b.1 - 1, b.2.1 - 1, b.2.2 + 1)
      dsimp only at this; (exact Int.le_of_lt (by assumption))
    · exact Int.le_refl _
theorem up_k {c : Int → Int → Bool} {ahi bhi : Int} : ∀ (n : Nat) (b : Best), b.2.2 ≤ (up c ahi bhi n b).2.2
  | 0, b => Int.le_refl _
  | n + 1, b => by
    rw [up_s]
    split
    · have := up_k (c := c) (ahi := ahi) (bhi := bhi) n (b.1, b.2.1, b.2.2 + 1)
      dsimp only at this; (exact Int.le_of_lt (by assumption))
    · exact Int.le_refl _
theorem Zks (as bs : List Int) (aj : Bool) (la lb : Int) : WOK (flmW as bs aj) la lb where
  k0 x := by
    have Lg := (Zbv (as := as) (alo := x.1) (ahi := x.2.1) (blo := x.2.2.1) (bhi := x.2.2.2) (Zla bs aj)).k0
    unfold flmW flmF Zfb Zcn
    exact Int.le_trans (Int.le_trans (Int.le_trans (Int.le_trans Lg (Zkx _ _)) (up_k _ _)) (Zkx _ _)) (up_k _ _)
  inn x h1 h2 h3 h4 h5 h6 hk := by
    have Lg := Zbv (as := as) (alo := x.1) (ahi := x.2.1) (blo := x.2.2.1) (bhi := x.2.2.2) (Zla bs aj)
    have W : InWn x.1 x.2.1 x.2.2.1 x.2.2.2 (outS as (PJ bs aj) x.1 x.2.2.1 x.2.2.2 (x.2.1 - x.1).toNat).2 := by
      by_cases hz : (outS as (PJ bs aj) x.1 x.2.2.1 x.2.2.2 (x.2.1 - x.1).toNat).2.2.2 = 0
      · rw [Lg.zero hz]
        exact ⟨Int.le_refl _, by dsimp only; lia, Int.le_refl _, by dsimp only; lia⟩
      · have c := Lg.com (by have := Lg.k0; lia)
        exact ⟨c.a0, c.a1, c.b0, c.b1⟩
    have R : InWn x.1 x.2.1 x.2.2.1 x.2.2.2 (flmW as bs aj x) := by
      unfold flmW flmF
      exact InWn.up (InWn.down (InWn.up (InWn.down W)))
    exact ⟨R.a0, R.a1, R.b0, R.b1⟩
noncomputable def mbS (i : Nat) : Stmt := (Zbm (mS 7)).getD i (.Pass ⟨0, 0, 0, 0⟩)
noncomputable def Zc1 (x : Win) : AV := .tup [.int x.1, .int x.2.1, .int x.2.2.1, .int x.2.2.2]
noncomputable def Zfl : List String := ["alo", "ahi", "blo", "bhi", "i", "j", "k", "x"]
theorem sz8 {n : Nat} (h : n ≤ 100000) : n ≤ sizeLine := by rw [sizeLine_eq]; (exact Nat.le_trans (by assumption) (by decide))
theorem Zeb : ∀ st : List Win, st.length ≤ wts st
  | [] => Nat.zero_le _
  | W0 :: st => by
    have h1 := Zeb st
    have h2 : 1 ≤ wt W0 := by unfold wt; (exact Nat.succ_pos _)
    rw [Zbl, List.length_cons]; lia
section
variable {A : Around} {env : Env} {m : Loc} {hp : Hp}
theorem Zmp {L x dx qA mA aA bA : Addr} {as bs : List Int} {aj : Bool} {mb op : AV} {hb : Hp} {KK : AF → Loc → Hp → Prop} (G : Gnd (KW W0) B0) (hh : A.handled = none) (hroom : A.depth + 4 < recursionLimit) (MM : MT hb L x dx (.ref aA) (.ref bA) bs aj mb op) (hno : ∃ ma, Ins hb L x dx 242 ma ∧ ma (S "find_longest_match") = none)
    (la : Lst B0 hb L aA (as.map .int)) (lb : Lst B0 hb L bA (bs.map .int)) (hla : as.length ≤ 4000) (hlb : bs.length ≤ 4000) (hle : Hp.Le hb hp) (bq : hb qA = none) (bm : hb mA = none) (qL : qA ≠ L) (mL : mA ≠ L) (qm : qA ≠ mA)
    (h1 : m (S "self") = some (.ref x)) (h2 : m (S "queue") = some (.ref qA)) (h3 : m (S "matching_blocks") = some (.ref mA)) (hq : hp qA = some (.list [Zc1 (0, as.length, 0, bs.length)])) (hm : hp mA = some (.list []))
    (hK : ∀ m' hp', (∀ y, y ∉ Zfl → m' (S y) = m (S y)) → Hp.Le hb hp' → hp' mA = some (.list ((rawB (flmW as bs aj) as.length bs.length).map triV)) → (rawB (flmW as bs aj) as.length bs.length).Nodup → KK .next m' hp') :
    EX (model PW W0) B0 (fun _ _ => False) A (callEnv fdMB L 203) (mbS 5) m hp KK := by
  have W := Zks as bs aj as.length bs.length
  let Iq : Nat → Loc → Hp → Prop := fun n m₂ hp₂ => Hp.Le hb hp₂ ∧ (∀ y, y ∉ Zfl → m₂ (S y) = m (S y)) ∧ ∃ st acc, n = wts st ∧ (∀ v ∈ st, Zc9 as.length bs.length v) ∧ hp₂ qA = some (.list (st.reverse.map Zc1)) ∧ hp₂ mA = some (.list (acc.map triV)) ∧ mbGo (flmW as bs aj) n st acc = rawB (flmW as bs aj) as.length bs.length ∧ Apart st acc ∧ acc.length + n ≤ 9000
  refine Zdp (Iq) (wt (0, (as.length : Int), 0, (bs.length : Int))) ⟨hle, fun _ _ => rfl, [(0, (as.length : Int), 0, (bs.length : Int))], [], by simp [wts], fun v hv => ?_, hq, hm, rfl, ⟨List.pairwise_singleton _ _, fun _ _ _ ht => (by cases ht), List.nodup_nil⟩, by simp [wt]; lia⟩ ?_
  · rw [List.mem_singleton] at hv; subst hv
    refine ⟨?_, ?_, ?_, ?_, ?_, ?_⟩ <;> dsimp only <;> lia
  rintro n m₂ hp₂ ⟨x1, x2, st, acc, rfl, x3, x4, x5, x6, x7, x8⟩
  have k1 : m₂ (S "self") = some (.ref x) := by rw [x2 _ (by decide)]; exact h1
  have k2 : m₂ (S "queue") = some (.ref qA) := by rw [x2 _ (by decide)]; exact h2
  have k3 : m₂ (S "matching_blocks") = some (.ref mA) := by rw [x2 _ (by decide)]; exact h3
  have hst := Zeb st
  refine Za9 (Zaa k2 (Zm9 x4 qL (by rw [List.length_map, List.length_reverse]; exact sz8 (by lia)) ?_))
  cases st with
  | nil =>
    refine Zdd (show (!(List.map Zc1 ([] : List Win).reverse).isEmpty) = false from rfl) ?_
    have e : acc = rawB (flmW as bs aj) as.length bs.length := by rw [← x6]; rfl
    rw [e] at x5 x7
    exact hK _ _ x2 x1 x5 x7.nd
  | cons v st =>
    refine Zed (show (!(List.map Zc1 (v :: st).reverse).isEmpty) = true from by simp) ?_
    refine Zcp fun KB hKB => ?_
    have hv := x3 v (.head _)
    rw [List.reverse_cons, List.map_append] at x4
    refine Zac (Zcz (Zq3 (Zaa k2 ⟨qA, st.reverse.map Zc1, Zc1 v, rfl, x4, qL, by rw [List.length_map, List.length_reverse]; have := Zeb st; rw [Zbl] at x8; exact Nat.lt_of_le_of_lt (Nat.le_refl _) (Nat.lt_of_lt_of_le (by lia : st.length < 100000) (by rw [sizeLine_eq]; decide)), ?_⟩)))
    refine Zb5 hh rfl rfl rfl (Zan (Zak (Zan (Zak (Zan (Zak (Zan (Zak (Zaq ?_)))))))))
    have le1 : Hp.Le hb (hp₂.set qA (.list (st.reverse.map Zc1))) := x1.set bq _
    have q1 : (hp₂.set qA (.list (st.reverse.map Zc1))) qA = some (.list (st.reverse.map Zc1)) := Hp.ss ..
    have m1 : (hp₂.set qA (.list (st.reverse.map Zc1))) mA = some (.list (acc.map triV)) := Hp.snt (Ne.symm qm) x5
    clear x4 x5 x1
    generalize hp₂.set qA (.list (st.reverse.map Zc1)) = hp3 at le1 q1 m1 ⊢
    try dsimp only
    generalize hm1 : upd (upd (upd (upd m₂ _ _) _ _) _ _) _ _ = m3
    have nm : ∀ y, y ∉ Zfl → m3 (S y) = m (S y) := fun y hy => by
      subst hm1
      exact updO hy (updO hy (updO hy (updO hy (x2 y hy))))
    have p1 : m3 (S "alo") = some (.int v.1) := by subst hm1; (first | assumption | rfl)
    have p2 : m3 (S "ahi") = some (.int v.2.1) := by subst hm1; (first | assumption | rfl)
    have p3 : m3 (S "blo") = some (.int v.2.2.1) := by subst hm1; (first | assumption | rfl)
    have p4 : m3 (S "bhi") = some (.int v.2.2.2) := by subst hm1; (first | assumption | rfl)
    have p5 : m3 (S "self") = some (.ref x) := by rw [nm _ (by decide)]; exact h1
    clear hm1 x2 k1 k2 k3
    obtain ⟨ma, I, hf⟩ := hno
    obtain ⟨w1, w2, w3, w4, w5, w6⟩ := id hv
    refine Zac (Zbb (Zep G (clsS W0) (f := 196) (by kernel_rfl) (by kernel_rfl) (by kernel_rfl) (Zaa p5 ⟨x, dx, _, rfl, I.le le1, hf, Zab (Zaa p1 (Zab (Zaa p2 (Zab (Zaa p3 (Zab (Zaa p4 (Zae ?_))))))))⟩)))
    refine Zq7 (as := as) (bs := bs) (aj := aj) G hh (by (exact Nat.lt_of_succ_lt (by assumption))) (MM.le le1) (la.le le1) (lb.le le1) (by omega) (by lia) (by omega) (by lia) (by omega) (by omega) hla hlb ?_
    have hF : flmF as bs (PJ bs aj) (fun _ => false) v.1 v.2.1 v.2.2.1 v.2.2.2 = flmW as bs aj v := rfl
    rw [hF]
    have hgo := x6
    rw [show wts (v :: st) = (wts (v :: st) - 1) + 1 from by rw [Zbl]; have : 1 ≤ wt v := by unfold wt; (exact Nat.succ_pos _)
                                                             lia, Zh1] at hgo
    generalize hT : flmW as bs aj v = T at hgo ⊢
    refine Zdv G (by kernel_rfl) (by kernel_rfl) hh rfl rfl rfl (Zan (Zak (Zan (Zak (Zan (Zak (Zaq ?_)))))))
    refine Zak ?_
    try dsimp only
    generalize hm4 : upd (upd (upd (upd m3 _ _) _ _) _ _) _ _ = m4
    have nm4 : ∀ y, y ∉ Zfl → m4 (S y) = m (S y) := fun y hy => by
      subst hm4
      exact updO hy (updO hy (updO hy (updO hy (nm y hy))))
    have r1 : m4 (S "alo") = some (.int v.1) := by subst hm4; (first | assumption | rfl)
    have r2 : m4 (S "ahi") = some (.int v.2.1) := by subst hm4; (first | assumption | rfl)
    have r3 : m4 (S "blo") = some (.int v.2.2.1) := by subst hm4; (first | assumption | rfl)
    have r4 : m4 (S "bhi") = some (.int v.2.2.2) := by subst hm4; (first | assumption | rfl)
    have r5 : m4 (S "i") = some (.int T.1) := by subst hm4; (first | assumption | rfl)
    have r6 : m4 (S "j") = some (.int T.2.1) := by subst hm4; (first | assumption | rfl)
    have r7 : m4 (S "k") = some (.int T.2.2) := by subst hm4; (first | assumption | rfl)
    have r8 : m4 (S "x") = some (triV T) := by subst hm4; (first | assumption | rfl)
    have r9 : m4 (S "queue") = some (.ref qA) := by rw [nm4 _ (by decide)]; exact h2
    have r10 : m4 (S "matching_blocks") = some (.ref mA) := by rw [nm4 _ (by decide)]; exact h3
    clear hm4 nm p1 p2 p3 p4 p5
    have hw1 : 1 ≤ wt v := by unfold wt; (exact Nat.succ_pos _)
    rw [Zbl] at x8
    have hl0 := Zeb st
    refine Zac (Za4 (Za9 (Zaa r7 (Zfv ?_))))
    by_cases hk : T.2.2 = 0
    · refine Zdd (show (T.2.2 != 0) = false from by simp [hk]) ?_
      rw [if_pos hk] at hgo
      refine Zag (Zag (hKB _ _ _ ⟨wts st, by rw [Zbl]; lia, le1, nm4, st, acc, rfl, fun y hy => x3 y (.tail _ hy), q1, m1, ?_, x7.tail, by lia⟩))
      rw [← hgo]
      exact Zdc W _ _ _ (fun y hy => x3 y (.tail _ hy)) (Nat.le_refl _) _ (by rw [Zbl]; lia)
    · refine Zed (show (T.2.2 != 0) = true from by simpa using hk) ?_
      rw [if_neg hk] at hgo
      have hk' : 0 < (flmW as bs aj v).2.2 := by have := W.k0 v; rw [hT] at this ⊢; lia
      have hless := Zfa W hv hk'
      have hap := x7.step W hv hk'
      have hin : ∀ y ∈ Zbe v T ++ (Zbx v T ++ st), Zc9 as.length bs.length y := fun y hy => by
        rw [← hT] at hy
        rcases List.mem_append.mp hy with hy | hy
        · exact (Zcf W hv hk' y hy).1
        · rcases List.mem_append.mp hy with hy | hy
          · exact (Zcl W hv hk' y hy).1
          · exact x3 y (.tail _ hy)
      rw [hT] at hless hap
      have hwn : wts (Zbe v T ++ (Zbx v T ++ st)) < wts (v :: st) := by rw [wts_app, wts_app, Zbl]; lia
      refine Zac (Za3 (Zba (Zaa r10 ⟨mA, _, rfl, m1, mL, Zab (Zaa r8 (Zae ⟨_, _, rfl, m1, by rw [List.length_map]; exact sz8 (by lia), ?_⟩))⟩)))
      refine ⟨by simp, by simp, by simp, ?_⟩
      have le2 : Hp.Le hb (hp3.set mA (.list (acc.map triV ++ [triV T]))) := le1.set bm _
      have q2 : (hp3.set mA (.list (acc.map triV ++ [triV T]))) qA = some (.list (st.reverse.map Zc1)) := Hp.snt qm q1
      have m2 : (hp3.set mA (.list (acc.map triV ++ [triV T]))) mA = some (.list ((acc ++ [T]).map triV)) := by rw [Hp.ss]; simp
      generalize hp3.set mA (.list (acc.map triV ++ [triV T])) = hp4 at le2 q2 m2 ⊢
      clear le1 q1 m1
      have stepL : ∀ {KC : AF → Loc → Hp → Prop}, (∀ hp5, Hp.Le hb hp5 → hp5 qA = some (.list ((Zbx v T ++ st).reverse.map Zc1)) → hp5 mA = some (.list ((acc ++ [T]).map triV)) → KC .next m4 hp5) → EX (model PW W0) B0 (fun _ _ => False) A (callEnv fdMB L 203) ((kids ((kids (mbS 5)).getD 2 (.Pass ⟨0, 0, 0, 0⟩))).getD 1 (.Pass ⟨0, 0, 0, 0⟩)) m4 hp4 KC := fun {KC} hC => by
        refine Za4 (Zc8 fun KT hKT => ?_)
        have no : ¬ (v.1 < T.1 ∧ v.2.2.1 < T.2.1) → KT false hp4 := fun hc => hKT _ _ (by
          refine if_f ?_
          refine Zag (hC _ le2 ?_ m2)
          rw [show Zbx v T = [] from by unfold Zbx; rw [if_neg hc], List.nil_append]; exact q2)
        refine Zaz (Zai (Zad (Zaa r1 (Zaa r5 (Zcu (Zaf ?_))))))
        by_cases c1 : v.1 < T.1
        · refine Zcm c1 ?_
          refine Zai (Zad (Zaa r3 (Zaa r6 (Zcu (Zaf ?_)))))
          by_cases c2 : v.2.2.1 < T.2.1
          · refine Zcm c2 ?_
            refine Za2 (hKT _ _ ?_)
            refine if_t ?_
            refine Zac (Za3 (Zba (Zaa r9 ⟨qA, _, rfl, q2, qL, Zab (Zap (Zab (Zaa r1 (Zab (Zaa r5 (Zab (Zaa r3 (Zab (Zaa r6 (Zae ⟨sz rfl, Zae ⟨_, _, rfl, q2, by rw [List.length_map, List.length_reverse]; exact sz8 (by lia), ?_⟩⟩))))))))))⟩)))
            refine ⟨by simp, by simp, by simp, Zag (hC _ (le2.set bq _) ?_ (Hp.snt (Ne.symm qm) m2))⟩
            rw [Hp.ss, show Zbx v T = [(v.1, T.1, v.2.2.1, T.2.1)] from by unfold Zbx; rw [if_pos ⟨c1, c2⟩]]
            simp [Zc1]
          · refine Zch c2 ?_
            exact no fun h => c2 h.2
        · refine Zch c1 ?_
          exact no fun h => c1 h.1
      refine Zac (stepL fun hp5 le3 q3 m3' => ?_)
      have hl1 := (Zf1 v T).1
      have hll : (Zbx v T ++ st).length ≤ 9000 := by
        have := Zeb (Zbx v T ++ st); rw [wts_app] at this; lia
      refine Zac (Za4 (Zc8 fun KT hKT => ?_))
      have fin : ∀ hp6, Hp.Le hb hp6 → hp6 qA = some (.list ((Zbe v T ++ (Zbx v T ++ st)).reverse.map Zc1)) → hp6 mA = some (.list ((acc ++ [T]).map triV)) → KB .next m4 hp6 := fun hp6 le4 q4 m5 => by
        refine hKB _ _ _ ⟨_, hwn, le4, nm4, _, _, rfl, hin, q4, m5, ?_, hap, ?_⟩
        · rw [← hgo]
          exact Zdc W _ _ _ hin (Nat.le_refl _) _ (by lia)
        · rw [List.length_append, List.length_singleton]; rw [Zbl] at hwn; lia
      have no : ¬ (T.1 + T.2.2 < v.2.1 ∧ T.2.1 + T.2.2 < v.2.2.2) → KT false hp5 := fun hc => hKT _ _ (by
        refine if_f ?_
        refine Zag (Zag (Zag (fin _ le3 ?_ m3')))
        rw [show Zbe v T = [] from by unfold Zbe; rw [if_neg hc], List.nil_append]; exact q3)
      refine Zaz (Zai (Zad (Zah (Zaa r5 (Zaa r7 (Zat (Zaa r2 (Zcu (Zaf ?_)))))))))
      by_cases c1 : T.1 + T.2.2 < v.2.1
      · refine Zcm c1 ?_
        refine Zai (Zad (Zah (Zaa r6 (Zaa r7 (Zat (Zaa r4 (Zcu (Zaf ?_))))))))
        by_cases c2 : T.2.1 + T.2.2 < v.2.2.2
        · refine Zcm c2 ?_
          refine Za2 (hKT _ _ ?_)
          refine if_t ?_
          refine Zac (Za3 (Zba (Zaa r9 ⟨qA, _, rfl, q3, qL, Zab (Zap (Zab (Zah (Zaa r5 (Zaa r7 (Zat (Zab (Zaa r2 (Zab (Zah (Zaa r6 (Zaa r7 (Zat (Zab (Zaa r4 (Zae ⟨sz rfl, Zae ⟨_, _, rfl, q3, by rw [List.length_map, List.length_reverse]; exact sz8 (by (exact Nat.le_trans (by assumption) (by decide))), ?_⟩⟩))))))))))))))))⟩)))
          refine ⟨by simp, by simp, by simp, Zag (Zag (Zag (fin _ (le3.set bq _) ?_ (Hp.snt (Ne.symm qm) m3'))))⟩
          rw [Hp.ss, show Zbe v T = [(T.1 + T.2.2, v.2.1, T.2.1 + T.2.2, v.2.2.2)] from by unfold Zbe; rw [if_pos ⟨c1, c2⟩]]
          simp [Zc1]
        · refine Zch c2 ?_
          exact no fun h => c2 h.2
      · refine Zch c1 ?_
        exact no fun h => c1 h.1
end
noncomputable def triT (x : Tri) : AV := .tup [.int x.1, .int x.2.1, .int x.2.2]
theorem Zhq {bl : List Tri} {k : Nat} {b : Tri} (h : bl[k]? = some b) : stM bl (k + 1) = stepM (stM bl k) b := by
  have hk : k < bl.length := (List.getElem?_eq_some_iff.mp h).1
  unfold stM
  rw [List.take_add_one, h, List.foldl_append]; rfl
theorem Zg4 {bl : List Tri} : ∀ k, (stM bl k).2.length ≤ k
  | 0 => by simp [stM]
  | k + 1 => by
    have ih := Zg4 (bl := bl) k
    cases h : bl[k]? with
    | none =>
      have hk : bl.length ≤ k := List.getElem?_eq_none_iff.mp h
      have : stM bl (k + 1) = stM bl k := by unfold stM; rw [List.take_of_length_le (by lia), List.take_of_length_le hk]
      rw [this]; lia
    | some b =>
      rw [Zhq h]
      unfold stepM
      split
      · dsimp only; lia
      · dsimp only; split
        · lia
        · rw [List.length_append]; simp; omega
noncomputable def Zg8 : List String := ["i1", "j1", "k1", "i2", "j2", "k2"]
section
variable {A : Around} {env : Env} {m : Loc} {hp : Hp}
theorem Zp4 {L mA nA : Addr} {bl : List Tri} {hb : Hp} {KK : AF → Loc → Hp → Prop} (G : Gnd (KW W0) B0) (hh : A.handled = none) (hlen : bl.length ≤ 100) (hle : Hp.Le hb hp) (bm : hb mA = some (.list (bl.map triV))) (mL : mA ≠ L) (bn : hb nA = none) (nL : nA ≠ L)
    (h1 : m (S "matching_blocks") = some (.ref mA)) (h2 : m (S "non_adjacent") = some (.ref nA)) (h3 : m (S "i1") = some (.int 0)) (h4 : m (S "j1") = some (.int 0)) (h5 : m (S "k1") = some (.int 0)) (hn : hp nA = some (.list []))
    (hK : ∀ m' hp', (∀ y, y ∉ Zg8 → m' (S y) = m (S y)) → m' (S "i1") = some (.int (stM bl bl.length).1.1) → m' (S "j1") = some (.int (stM bl bl.length).1.2.1) → m' (S "k1") = some (.int (stM bl bl.length).1.2.2) → Hp.Le hb hp' → hp' nA = some (.list ((stM bl bl.length).2.map triT)) → KK .next m' hp') :
    EX (model PW W0) B0 (fun _ _ => False) A (callEnv fdMB L 203) (mbS 9) m hp KK := by
  refine Zem hh (Zaa h1 ⟨mA, _, rfl, .own (hle _ _ bm) mL, fun it hit hitL => ?_⟩)
  have bi : hb it = none := hle.none hit
  have ni : nA ≠ it := Hp.ne_of hn hit
  let Iq : Nat → Loc → Hp → Prop := fun k m₂ hp₂ => Hp.Le hb hp₂ ∧ (∀ y, y ∉ Zg8 → m₂ (S y) = m (S y)) ∧ m₂ (S "i1") = some (.int (stM bl k).1.1) ∧ m₂ (S "j1") = some (.int (stM bl k).1.2.1) ∧ m₂ (S "k1") = some (.int (stM bl k).1.2.2) ∧ hp₂ nA = some (.list ((stM bl k).2.map triT))
  refine ⟨Iq, fun ob => ?_, fun k m₂ hp₂ ob x => ?_, fun k m₂ hp₂ x => .own (x.1 _ _ bm) mL, fun k y m₂ hp₂ ob hy x hob => ?_, fun m₂ hp₂ x => ?_⟩
  · exact ⟨hle.set bi _, fun _ _ => rfl, h3, h4, h5, Hp.snt ni hn⟩
  · exact ⟨x.1.set bi _, x.2.1, x.2.2.1, x.2.2.2.1, x.2.2.2.2.1, Hp.snt ni x.2.2.2.2.2⟩
  · refine hide fun Gq kq => ?_
    obtain ⟨x1, x2, x3, x4, x5, x6⟩ := x
    obtain ⟨b, hbk, rfl⟩ : ∃ b, bl[k]? = some b ∧ triV b = y := by
      rw [List.getElem?_map] at hy
      exact Option.map_eq_some_iff.mp hy
    refine kq ?_; clear kq Gq
    have hkl : k < bl.length := (List.getElem?_eq_some_iff.mp hbk).1
    have hs := Zhq hbk
    have hsl := Zg4 (bl := bl) k
    generalize stM bl k = st at x3 x4 x5 x6 hs hsl
    refine Zdv G (by kernel_rfl) (by kernel_rfl) hh rfl rfl rfl (Zan (Zak (Zan (Zak (Zan (Zak (Zaq ?_)))))))
    refine Zcp fun KB hKB => ?_
    try dsimp only
    generalize hm1 : upd (upd (upd m₂ _ _) _ _) _ _ = m1
    have p0 : ∀ y, y ∉ Zg8 → m1 (S y) = m (S y) := fun y hy => by
      subst hm1
      exact updO hy (updO hy (updO hy (x2 y hy)))
    have p1 : m1 (S "i1") = some (.int st.1.1) := by subst hm1; (first | assumption | rfl)
    have p2 : m1 (S "j1") = some (.int st.1.2.1) := by subst hm1; (first | assumption | rfl)
    have p3 : m1 (S "k1") = some (.int st.1.2.2) := by subst hm1; (first | assumption | rfl)
    have p4 : m1 (S "i2") = some (.int b.1) := by subst hm1; (first | assumption | rfl)
    have p5 : m1 (S "j2") = some (.int b.2.1) := by subst hm1; (first | assumption | rfl)
    have p6 : m1 (S "k2") = some (.int b.2.2) := by subst hm1; (first | assumption | rfl)
    have p7 : m1 (S "non_adjacent") = some (.ref nA) := by rw [p0 _ (by decide)]; exact h2
    clear hm1 x2 x3 x4 x5
    refine Zac (Za4 (Zc8 fun KT hKT => ?_))
    have no : ¬ (st.1.1 + st.1.2.2 = b.1 ∧ st.1.2.1 + st.1.2.2 = b.2.1) → KT false hp₂ := fun hc => hKT _ _ (by
      refine if_f ?_
      have hs' : stM bl (k + 1) = (b, if st.1.2.2 = 0 then st.2 else st.2 ++ [st.1]) := by rw [hs, stepM, if_neg hc]
      have last : ∀ hp3, Hp.Le hb hp3 → hp3 it = some (.obj ob) → hp3 nA = some (.list ((stM bl (k + 1)).2.map triT)) → EXs (model PW W0) B0 (fun _ _ => False) A (callEnv fdMB L 203) [(kidE ((kids (mbS 9)).getD 0 (.Pass ⟨0, 0, 0, 0⟩))).getD 1 (.Pass ⟨0, 0, 0, 0⟩)] m1 hp3 (SEQ (model PW W0) A (fun _ _ => False) B0 (callEnv fdMB L 203) [] KB) := fun hp3 l3 l4 l5 => by
        refine Zac (Zar hh (names := [S "i1", S "j1", S "k1"]) (Zap (Zab (Zaa p4 (Zab (Zaa p5 (Zab (Zaa p6 (Zae ⟨sz rfl, _, rfl, rfl, Zal (Zal (Zal (Zaq ?_)))⟩)))))))))
        refine Zag (Zag (hKB _ _ _ ⟨⟨l3, fun y hy => ?_, ?_, ?_, ?_, l5⟩, l4⟩))
        · exact updO hy (updO hy (updO hy (p0 y hy)))
        · rw [hs']; (first | assumption | rfl)
        · rw [hs']; (first | assumption | rfl)
        · rw [hs']; (first | assumption | rfl)
      refine Zac (Za4 (Za9 (Zaa p3 (Zfv ?_))))
      by_cases hz : st.1.2.2 = 0
      · refine Zdd (show (st.1.2.2 != 0) = false from by simp [hz]) ?_
        refine Zag (last _ x1 hob ?_)
        rw [hs', if_pos hz]; exact x6
      · refine Zed (show (st.1.2.2 != 0) = true from by simpa using hz) ?_
        refine Zac (Za3 (Zba (Zaa p7 ⟨nA, _, rfl, x6, nL, Zab (Zap (Zab (Zaa p1 (Zab (Zaa p2 (Zab (Zaa p3 (Zae ⟨sz rfl, Zae ⟨_, _, rfl, x6, by rw [List.length_map]; exact sz' (by lia), ?_⟩⟩))))))))⟩)))
        refine ⟨by simp, by simp, by simp, Zag (last _ (x1.set bn _) (Hp.snt (Ne.symm ni) hob) ?_)⟩
        rw [Hp.ss, hs', if_neg hz]; simp [triT])
    refine Zaz (Zai (Zad (Zah (Zaa p1 (Zaa p3 (Zat (Zaa p4 (Zco (Zaf ?_)))))))))
    by_cases c1 : st.1.1 + st.1.2.2 = b.1
    · refine Zed (show (st.1.1 + st.1.2.2 == b.1) = true from by simpa using c1) ?_
      refine Zai (Zad (Zah (Zaa p2 (Zaa p3 (Zat (Zaa p5 (Zco (Zaf ?_))))))))
      by_cases c2 : st.1.2.1 + st.1.2.2 = b.2.1
      · refine Zed (show (st.1.2.1 + st.1.2.2 == b.2.1) = true from by simpa using c2) ?_
        refine Za2 (hKT _ _ ?_)
        refine if_t ?_
        have hs' : stM bl (k + 1) = ((st.1.1, st.1.2.1, st.1.2.2 + b.2.2), st.2) := by rw [hs, stepM, if_pos ⟨c1, c2⟩]
        refine Zac (Zd0 p3 (Zaa p6 (Zlc ?_)))
        refine Zag (Zag (hKB _ _ _ ⟨⟨x1, fun y hy => ?_, ?_, ?_, ?_, ?_⟩, hob⟩))
        · rw [ug, if_neg (fun e => hy (by rw [e]; decide))]; exact p0 y hy
        · rw [hs']; (first | assumption | rfl)
        · rw [hs']; (first | assumption | rfl)
        · rw [hs']; (first | assumption | rfl)
        · rw [hs']; exact x6
      · refine Zdd (show (st.1.2.1 + st.1.2.2 == b.2.1) = false from by simpa using c2) ?_
        exact no fun h => c2 h.2
    · refine Zdd (show (st.1.1 + st.1.2.2 == b.1) = false from by simpa using c1) ?_
      exact no fun h => c1 h.1
  · refine hide fun Gq kq => ?_
    obtain ⟨x1, x2, x3, x4, x5, x6⟩ := x
    refine kq ?_; clear kq Gq
    rw [List.length_map] at x3 x4 x5 x6
    exact hK _ _ x2 x3 x4 x5 (x1.del bi) (by rw [Hp.del_ne _ ni]; exact x6)
end
section
variable {A : Around} {env : Env} {m : Loc} {hp : Hp}
theorem Zpm {t : Tri} {Q : AV → Hp → Prop} (G : Gnd (KW W0) B0) (hroom : A.depth < recursionLimit) (h : Q (triV t) hp) : CD (model PW W0) B0 E0 A env (.ref 89) m [.ref 135, triT t] hp Q := by
  refine Ze0 (bs := [(S "iterable", triT t), (S "cls", .ref 135)]) (body := Zbm (inS (topS PW 3) 5)) G (Zqa W0) (by kernel_rfl) rfl hroom (fun s vs hv _ => ?_) (by kernel_rfl) (by decide) (fun L hL hLe => ?_)
  · obtain ⟨v, u, rfl, h1, h2⟩ := Zc7 hv
    exact ⟨[(S "cls", v), (S "iterable", u)], BindsTo.of_eq rfl, rfl, .mk h2 (.mk h1 .nil)⟩
  · have g0 : Za0 [(S "iterable", triT t), (S "cls", .ref 135)] (S "cls") = some (.ref 135) := rfl
    have g1 : Za0 [(S "iterable", triT t), (S "cls", .ref 135)] (S "iterable") = some (triT t) := rfl
    generalize hm0 : Za0 [(S "iterable", triT t), (S "cls", .ref 135)] = m0 at *
    refine Zac (Zdo ?_)
    refine Zac (Zao (Zlp G (matK W0) (Zay G (Zhy W0) Zgi (by decide) (fun _ => Zdl) ⟨rfl, Zab (Zaa g0 (Zab (Zaa g1 (Zae (Zlu G (matK W0) (sz rfl) ?_)))))⟩)))
    refine Zac (Za4 (Zad (Za1 (Zay G (Zbz W0) Zbj (by decide) (fun _ => Zct) ⟨rfl, Zab (Zaa (v := triV t) (by first | assumption | rfl) (Zae (Zpi G (by kernel_rfl) (by kernel_rfl) (sz rfl) (Zaj (Zr9 (Zaf ?_))))))⟩))))
    refine Zdd (show (((([AV.int t.1, .int t.2.1, .int t.2.2] : List AV).length : Nat) : Int) != 3) = false from rfl) ?_
    refine Zag (Zac (Za6 (Zaa (v := triV t) (by first | assumption | rfl) ?_)))
    exact Zhu hL h
theorem Zoq {L nA : Addr} {res : List Tri} {Q : AV → Hp → Prop} (G : Gnd (KW W0) B0) (hh : A.handled = none) (hroom : A.depth < recursionLimit) (u8 : m (S "non_adjacent") = some (.ref nA)) (hn6 : hp nA = some (.list (res.map triT))) (hnL : nA ≠ L) (hml : res.length ≤ 200)
    (hK : ∀ Sx hp8, Hp.Le hp hp8 → hp8 Sx = some (.list (res.map triV)) → hp Sx = none → Sx ≠ L → Q (.ref Sx) hp8) :
    EV (model PW W0) B0 E0 A (callEnv fdMB L 203) (kidT (mbS 12)) m hp Q := by
  refine Zjj hh (Zay G (Zom W0) Zm5 (by decide) (fun _ => Zdl) ⟨rfl, Zay G (Zp0 W0) Zo4 (by decide) (fun _ => Zdl) ⟨rfl, Zab (Zpa (mc := .type "type") (p := 91) (f := .ref 89) (rest := [.bool false]) G (by kernel_rfl) (by kernel_rfl) (by kernel_rfl) (Zeq G (Zkp W0) (fun _ => VR_ref) ⟨rfl, fun fq hfq hfL => Zab (Zaa u8 (Zae ⟨fq, nA, res.map triT, rfl, .own (Hp.snt (Hp.ne_of hn6 hfq) hn6) hnL, by rw [List.length_map]; (exact Nat.le_trans (by assumption) (by decide)), fun Sx mo it t hSL hSm hSi hmi hS0 hm0' hi0 => ?_⟩))⟩))⟩⟩)
  have le7 : Hp.Le hp (hp.set fq (.obj (methodObj (.ref 89) (.ref 135)))) := (Hp.Le.refl _).set hfq _
  have hq7 : (hp.set fq (.obj (methodObj (.ref 89) (.ref 135)))) fq = some (.obj (methodObj (.ref 89) (.ref 135))) := Hp.ss ..
  have hn7 := le7 _ _ hn6
  generalize hp.set fq (.obj (methodObj (.ref 89) (.ref 135))) = hp7 at le7 hq7 hn7 hS0 hm0' hi0 ⊢
  refine ⟨fun i acc hp' => acc = (res.take i).map triV ∧ (∀ z o, hp7 z = some o → hp' z = some o) ∧ hp' mo = some (.obj (Zbw t (.ref fq))), ⟨rfl, fun z o e => ?_, ?_⟩, fun i acc hp' z o hz y => ⟨y.1, fun z' o' e => ?_, ?_⟩, fun i acc hp' y => .own (y.2.1 _ _ hn7) hnL, fun i acc hp' y => y.2.2, fun A' hA1 hA2 hA3 i v acc hp' hv y => ?_, fun acc hp' y hS => ?_⟩
  · exact Hp.snt (Hp.ne_of e hS0) (Hp.snt (Hp.ne_of e hm0') (Hp.snt (Hp.ne_of e hi0) e))
  · exact Hp.snt (Ne.symm hSm) (Hp.ss ..)
  · rcases hz with rfl | rfl
    · exact Hp.snt (Hp.ne_of e hS0) (y.2.1 _ _ e)
    · exact Hp.snt (Hp.ne_of e hi0) (y.2.1 _ _ e)
  · rcases hz with rfl | rfl
    · exact Hp.snt (Ne.symm hSm) y.2.2
    · exact Hp.snt hmi y.2.2
  · obtain ⟨b, hbk, rfl⟩ : ∃ b, res[i]? = some b ∧ triT b = v := by
      rw [List.getElem?_map] at hv
      exact Option.map_eq_some_iff.mp hv
    refine Zlw (sv := .ref 135) (y.2.1 _ _ hq7) hfL (fun _ => VR_ref) (Zpm G (by rw [hA2]; exact hroom) ⟨fun _ _ => rfl, ?_, y.2⟩)
    rw [List.take_add_one, hbk, List.map_append, ← y.1]; rfl
  · obtain ⟨y1, y2, y3⟩ := y
    rw [List.length_map, List.take_length] at y1
    refine hK Sx _ (fun z o e => ?_) (by rw [Hp.del_ne _ hSi, hS, y1]) ?_ hSL
    · have e7 := le7 _ _ e
      rw [Hp.del_ne _ (Hp.ne_of e7 hi0)]; exact y2 _ _ e7
    · cases e : hp Sx with
      | none => rfl
      | some o => exact absurd (le7 _ _ e) (by rw [hS0]; simp)
theorem Zq5 {x dx aA bA : Addr} {as bs : List Int} {aj : Bool} {op : AV} {Q : AV → Hp → Prop} (G : Gnd (KW W0) B0) (hh : A.handled = none) (hu : A.units + 10 < cLine) (hroom : A.depth + 5 < recursionLimit) {hq : Hp} (hle : Hp.Le hq hp) (MM : MT hq env.locals x dx (.ref aA) (.ref bA) bs aj .none op)
    (la : Lst B0 hp env.locals aA (as.map .int)) (lb : Lst B0 hp env.locals bA (bs.map .int)) (hla : as.length ≤ 4000) (hlb : bs.length ≤ 4000) (hraw : (rawB (flmW as bs aj) as.length bs.length).length < 64)
    (h : ∀ hp' hq' r, hp r = none → r ≠ env.locals → hp' r = some (.list ((mbF (flmW as bs aj) as.length bs.length).map triV)) → MT hq' env.locals x dx (.ref aA) (.ref bA) bs aj (.ref r) op → Hp.Le hq' hp' → (∀ z, hq z = none → hq' z = none) → (∀ z o, z ≠ dx → z ≠ env.locals → hp z = some o → hp' z = some o) → hp' env.locals = none → Q (.ref r) hp') :
    CL (model PW W0) B0 E0 A env (.ref 203) m [.ref x] hp Q := by
  refine CD.cl (Ze0 (bs := [(S "self", .ref x)]) (body := Zbm (mS 7)) G (kMB W0) (by kernel_rfl) rfl (by (exact ul0 (by assumption))) (fun s vs hv _ => ?_) (by kernel_rfl) (by decide) (fun L hL hLe => ?_))
  · refine hide fun Gq kq => ?_
    obtain ⟨v, rfl, h1⟩ := Zbo hv
    refine kq ?_; clear kq Gq
    exact ⟨[(S "self", v)], BindsTo.of_eq rfl, rfl, VRs.one h1⟩
  · have Mq := MM.call (m := m) (hle.none hL)
    have hqb : Hp.Le (hq.set env.locals (.ns m)) (hp.set env.locals (.ns m)) := fun z o e => by
      by_cases hz : z = env.locals
      · subst hz; rw [Hp.ss] at e ⊢; exact e
      · rw [Hp.sn _ _ hz] at e ⊢; exact hle _ _ e
    have M' := Mq.le hqb
    have hq1 : ∀ z, z ≠ env.locals → (hq.set env.locals (.ns m)) z = hq z := fun z hz => by rw [Hp.sn _ _ hz]
    have hq2 : (hq.set env.locals (.ns m)) env.locals = some (.ns m) := Hp.ss ..
    generalize hq.set env.locals (.ns m) = hqs at Mq hqb hq1 hq2
    refine hide fun Gq kq => ?_
    have la' := la.call (m := m) hL
    have lb' := lb.call (m := m) hL
    have hcl : (hp.set env.locals (.ns m)) env.locals = some (.ns m) := Hp.ss ..
    have hLc : (hp.set env.locals (.ns m)) L = none := Hp.snt hLe hL
    have hback : ∀ z o, z ≠ env.locals → hp z = some o → (hp.set env.locals (.ns m)) z = some o := fun z o hz e => Hp.snt hz e
    have hbn : ∀ z, (hp.set env.locals (.ns m)) z = none → hp z = none ∧ z ≠ env.locals := fun z hz => by
      have : z ≠ env.locals := fun e => by rw [e, Hp.ss] at hz; cases hz
      exact ⟨Hp.snr this hz, this⟩
    have g0 : Za0 [(S "self", AV.ref x)] (S "self") = some (.ref x) := rfl
    generalize hm0 : Za0 [(S "self", AV.ref x)] = m0 at *
    generalize hp.set env.locals (.ns m) = hb at *
    obtain ⟨ma, I, hmb, hop, hno, hma, hmbb, _, _⟩ := M'.keep
    refine kq ?_; clear kq Gq
    refine Zac (Zdo ?_)
    refine Zac (Za4 (Zad (Zbp G g0 I hmb (Zcv (Zdz (Zaf ?_))))))
    refine Zdd (show (!AV.isNone .none) = false from rfl) ?_
    refine Zag (Zac (Zar hh (names := [S "la", S "lb"]) (Zap (Zab (Za1 (Zay G (Zbz W0) Zbj (by decide) (fun _ => Zct) ⟨rfl, Zab (Zbp G g0 I hma (Zae (Zcb la' (by rw [List.length_map]; exact sz' (by (exact Nat.le_trans (by assumption) (by decide)))) ?_)))⟩))))))
    refine Zab (Za1 (Zay G (Zbz W0) Zbj (by decide) (fun _ => Zct) ⟨rfl, Zab (Zbp G g0 I hmbb (Zae (Zcb lb' (by rw [List.length_map]; exact sz' (by (exact Nat.le_trans (by assumption) (by decide)))) (Zae ⟨sz rfl, _, rfl, rfl, Zal (Zal (Zaq ?_))⟩))))⟩))
    rw [List.length_map, List.length_map]
    refine Zac (Zao (Zbq (Zab (Zap (Zab (Zaj (Zab (Zaa (v := .int as.length) (by first | assumption | rfl) (Zab (Zaj (Zab (Zaa (v := .int bs.length) (by first | assumption | rfl) (Zae ⟨sz rfl, Zae ⟨sz rfl, fun qA hqA hqL => ?_⟩⟩)))))))))))))
    refine Zac (Zao (Zbq (Zae ⟨Nat.zero_le _, fun mA hmA hmL => ?_⟩)))
    have hqm : qA ≠ mA := Hp.ne_of (Hp.ss ..) hmA
    have bmA : hb mA = none := ((Hp.Le.refl hb).set hqA _).none hmA
    try dsimp only
    generalize hm1 : upd (upd (upd (upd m0 _ _) _ _) _ _) _ _ = m1
    have p1 : m1 (S "self") = some (.ref x) := by subst hm1; (first | assumption | rfl)
    have p2 : m1 (S "queue") = some (.ref qA) := by subst hm1; (first | assumption | rfl)
    have p3 : m1 (S "matching_blocks") = some (.ref mA) := by subst hm1; (first | assumption | rfl)
    have p4 : m1 (S "la") = some (.int as.length) := by subst hm1; (first | assumption | rfl)
    have p5 : m1 (S "lb") = some (.int bs.length) := by subst hm1; (first | assumption | rfl)
    clear hm1 g0
    refine Zac ?_
    refine Zmp (A := A.deeper (callEnv fdMB L 203)) (hb := hb) (as := as) (bs := bs) G hh (by show A.depth + 1 + 4 < _; omega) M' ⟨ma, I, hno "find_longest_match" (by decide)⟩ la' lb' hla hlb (((Hp.Le.refl hb).set hqA _).set bmA _) hqA bmA hqL hmL hqm p1 p2 p3 (by rw [Hp.sn _ _ hqm, Hp.ss]; rfl) (Hp.ss ..) fun m2 hp2 q1 q2 q3 q4 => ?_
    have p1' : m2 (S "self") = some (.ref x) := by rw [q1 _ (by decide)]; exact p1
    have p3' : m2 (S "matching_blocks") = some (.ref mA) := by rw [q1 _ (by decide)]; exact p3
    have p4' : m2 (S "la") = some (.int as.length) := by rw [q1 _ (by decide)]; exact p4
    have p5' : m2 (S "lb") = some (.int bs.length) := by rw [q1 _ (by decide)]; exact p5
    clear q1 p1 p2 p3 p4 p5
    refine Zac (Za3 (Znj G (by kernel_rfl) (by kernel_rfl) (by show A.units + 3 + 4 < _; lia) (Zaa p3' ⟨mA, _, rfl, q3, hmL, q4, hraw, fun ys hperm hup => ⟨by simp, by simp, by simp, ?_⟩⟩)))
    have hys := Zmc q4 hperm hup
    have hyl : ys.length ≤ 100 := by rw [hperm.length_eq]; lia
    have le3 : Hp.Le hb (hp2.set mA (.list (ys.map triV))) := q2.set bmA _
    refine Zac (Zji (Zaj (Zak (Zak (Zak ?_)))))
    refine Zac (Zao (Zbq (Zae ⟨Nat.zero_le _, fun nA hnA hnL => ?_⟩)))
    have hmn : mA ≠ nA := Hp.ne_of (Hp.ss ..) hnA
    have bnA : hb nA = none := le3.none hnA
    try dsimp only
    generalize hm3 : upd (upd (upd (upd m2 _ _) _ _) _ _) _ _ = m3
    have s1 : m3 (S "self") = some (.ref x) := by subst hm3; (first | assumption | rfl)
    have s2 : m3 (S "matching_blocks") = some (.ref mA) := by subst hm3; (first | assumption | rfl)
    have s3 : m3 (S "la") = some (.int as.length) := by subst hm3; (first | assumption | rfl)
    have s4 : m3 (S "lb") = some (.int bs.length) := by subst hm3; (first | assumption | rfl)
    have s5 : m3 (S "i1") = some (.int 0) := by subst hm3; (first | assumption | rfl)
    have s6 : m3 (S "j1") = some (.int 0) := by subst hm3; (first | assumption | rfl)
    have s7 : m3 (S "k1") = some (.int 0) := by subst hm3; (first | assumption | rfl)
    have s8 : m3 (S "non_adjacent") = some (.ref nA) := by subst hm3; (first | assumption | rfl)
    clear hm3 p1' p3' p4' p5'
    refine Zac ?_
    refine Zp4 (A := A.deeper (callEnv fdMB L 203)) (hb := hb.set mA (.list (ys.map triV))) (bl := ys) G hh hyl (fun z o e => ?_) (Hp.ss ..) hmL (Hp.snt (Ne.symm hmn) bnA) hnL s2 s8 s5 s6 s7 (Hp.ss ..) fun m4 hp4 t1 t2 t3 t4 t5 t6 => ?_
    · by_cases hz : z = mA
      · subst hz; rw [Hp.ss] at e; rw [Hp.sn _ _ hmn, Hp.ss]; exact e
      · rw [Hp.sn _ _ hz] at e
        exact Hp.snt (Hp.ne_of e bnA) (le3 _ _ e)
    have le4 : Hp.Le hb hp4 := ((Hp.Le.refl hb).set bmA _).trans t5
    have u1 : m4 (S "self") = some (.ref x) := by rw [t1 _ (by decide)]; exact s1
    have u3 : m4 (S "la") = some (.int as.length) := by rw [t1 _ (by decide)]; exact s3
    have u4 : m4 (S "lb") = some (.int bs.length) := by rw [t1 _ (by decide)]; exact s4
    have u8 : m4 (S "non_adjacent") = some (.ref nA) := by rw [t1 _ (by decide)]; exact s8
    clear t1 s1 s2 s3 s4 s5 s6 s7 s8 t5
    have hsl := Zg4 (bl := ys) ys.length
    have rest : ∀ hp5 (ns : List Tri), ns.length ≤ 101 → ns ++ [((as.length : Int), (bs.length : Int), 0)] = mbF (flmW as bs aj) as.length bs.length → Hp.Le hb hp5 → hp5 nA = some (.list (ns.map triT)) → EXs (model PW W0) B0 (fun _ _ => False) (A.deeper (callEnv fdMB L 203)) (callEnv fdMB L 203) [mbS 11, mbS 12, mbS 13] m4 hp5 (RET L env m Q) := fun hp5 ns hns hres le5 hn5 => by
      refine Zac ?_
      refine Za3 (Zba (Zaa u8 ⟨nA, _, rfl, hn5, hnL, Zab (Zap (Zab (Zaa u3 (Zab (Zaa u4 (Zab (Zaj (Zae ⟨sz rfl, Zae ⟨_, _, rfl, hn5, by rw [List.length_map]; exact sz' (by (exact Nat.le_trans (by assumption) (by decide))), ?_⟩⟩))))))))⟩))
      refine ⟨by simp, by simp, by simp, ?_⟩
      have le6 : Hp.Le hb (hp5.set nA (.list (ns.map triT ++ [triT ((as.length : Int), (bs.length : Int), 0)]))) := le5.set bnA _
      have hn6 : (hp5.set nA (.list (ns.map triT ++ [triT ((as.length : Int), (bs.length : Int), 0)]))) nA = some (.list ((mbF (flmW as bs aj) as.length bs.length).map triT)) := by rw [Hp.ss, ← hres]; simp
      have hml : (mbF (flmW as bs aj) as.length bs.length).length ≤ 200 := by rw [← hres]; simp; (exact Nat.le_trans (by assumption) (by decide))
      change EXs _ _ _ _ _ _ _ (hp5.set nA (.list (ns.map triT ++ [triT ((as.length : Int), (bs.length : Int), 0)]))) _
      generalize hp5.set nA (.list (ns.map triT ++ [triT ((as.length : Int), (bs.length : Int), 0)])) = hp6 at le6 hn6 ⊢
      clear hn5 le5 hres hns
      generalize mbF (flmW as bs aj) as.length bs.length = res at *
      refine Zac ?_
      refine Zb0 (Zoq G hh (by show A.depth + 1 < _; (exact ul (by assumption) (by decide))) u8 hn6 hnL hml fun Sx hp8 le7 hS8 hS0 hSL => ?_)
      have le8 := le6.trans le7
      have bS : hb Sx = none := by
        cases e : hb Sx with
        | none => rfl
        | some o => exact absurd (le6 _ _ e) (by rw [hS0]; simp)
      obtain ⟨ma8, Iq, _, _, _, _, _, k8, _⟩ := Mq.keep
      have I8 := Iq.le (hqb.trans le8)
      have hSd : Sx ≠ dx := fun e => by rw [e, I8.at_] at hS8; cases hS8
      have Mk := k8 (.ref Sx)
      have lek : Hp.Le (hqs.set dx (.atr (upd ma8 (S "matching_blocks") (.ref Sx)))) (hp8.set dx (.atr (upd ma8 (S "matching_blocks") (.ref Sx)))) := fun z o e => by
        by_cases hz : z = dx
        · subst hz; rw [Hp.ss] at e ⊢; exact e
        · rw [Hp.sn _ _ hz] at e ⊢; exact le8 _ _ (hqb _ _ e)
      have M9 := Mk.le lek
      obtain ⟨ma9, I9, hmb9, _⟩ := M9.keep
      refine Za5 G u1 I8 ?_
      refine Zac ?_
      refine Za6 (Zbp G u1 I9 hmb9 ?_)
      have dE : dx ≠ env.locals := MM.xL.2.1
      have hl9 : (hp8.set dx (.atr (upd ma8 (S "matching_blocks") (.ref Sx)))) env.locals = some (.ns m) := Hp.snt (Ne.symm dE) (le8 _ _ hcl)
      obtain ⟨r1, r2⟩ := hbn Sx bS
      refine Zcr hl9 (h _ ((hqs.set dx (.atr (upd ma8 (S "matching_blocks") (.ref Sx)))).cut env.locals L) Sx r1 r2 ?_ (Mk.move fun z o e hns hz => ?_) (fun z o e => ?_) (fun z hz => ?_) (fun z o hz hzE e => ?_) (by simp [Hp.cut]))
      · rw [Hp.cut_eq r2 (show Sx ≠ L from hSL), Hp.sn _ _ hSd]; exact hS8
      · have hzE : z ≠ env.locals := fun h => by rw [h, Hp.sn _ _ (Ne.symm dE), hq2] at e; cases e; exact hns _ rfl
        exact ⟨by rw [Hp.cut_eq hzE hz]; exact e, hzE⟩
      · by_cases hz : z = env.locals ∨ z = L
        · simp [Hp.cut, hz] at e
        · rw [not_or] at hz
          rw [Hp.cut_eq hz.1 hz.2] at e ⊢
          exact lek _ _ e
      · by_cases hz2 : z = env.locals ∨ z = L
        · simp [Hp.cut, hz2]
        · rw [not_or] at hz2
          have hzd : z ≠ dx := fun h => by
            obtain ⟨_, Iz, _⟩ := MM.keep
            rw [h, Iz.at_] at hz; cases hz
          rw [Hp.cut_eq hz2.1 hz2.2, Hp.sn _ _ hzd, hq1 _ hz2.1]; exact hz
      · have hz1 := hback z o hzE e
        rw [Hp.cut_eq hzE (Hp.ne_of hz1 hLc), Hp.sn _ _ hz]; exact le8 _ _ hz1
    have hkres : (if (stM ys ys.length).1.2.2 = 0 then (stM ys ys.length).2 else (stM ys ys.length).2 ++ [(stM ys ys.length).1]) ++ [((as.length : Int), (bs.length : Int), 0)] = mbF (flmW as bs aj) as.length bs.length := by
      unfold mbF; rw [← hys]; rfl
    refine Zac (Za4 (Za9 (Zaa t4 (Zfv ?_))))
    by_cases hz : (stM ys ys.length).1.2.2 = 0
    · refine Zdd (show ((stM ys ys.length).1.2.2 != 0) = false from by simp [hz]) ?_
      rw [if_pos hz] at hkres
      exact Zag (rest _ _ (by lia) hkres le4 t6)
    · refine Zed (show ((stM ys ys.length).1.2.2 != 0) = true from by simpa using hz) ?_
      rw [if_neg hz] at hkres
      refine Zac (Za3 (Zba (Zaa u8 ⟨nA, _, rfl, t6, hnL, Zab (Zap (Zab (Zaa t2 (Zab (Zaa t3 (Zab (Zaa t4 (Zae ⟨sz rfl, Zae ⟨_, _, rfl, t6, by rw [List.length_map]; exact sz' (by lia), ?_⟩⟩))))))))⟩)))
      refine ⟨by simp, by simp, by simp, Zag (rest _ _ (by simp; (exact Nat.le_trans (by assumption) (by assumption))) hkres (le4.set bnA _) ?_)⟩
      rw [Hp.ss]; simp [triT]
end
noncomputable abbrev Op := String × Int × Int × Int × Int
noncomputable def Zbn (i ai j bj : Int) : String := if i < ai then (if j < bj then "replace" else "delete") else if j < bj then "insert" else ""
noncomputable abbrev CSt := Int × Int × List Op
noncomputable def stepC (st : CSt) (b : Tri) : CSt :=
  (b.1 + b.2.2, b.2.1 + b.2.2, st.2.2 ++ ((if Zbn st.1 b.1 st.2.1 b.2.1 = "" then [] else [(Zbn st.1 b.1 st.2.1 b.2.1, st.1, b.1, st.2.1, b.2.1)]) ++ (if b.2.2 = 0 then [] else [("equal", b.1, b.1 + b.2.2, b.2.1, b.2.1 + b.2.2)])))
noncomputable def stC (bl : List Tri) (k : Nat) : CSt := (bl.take k).foldl stepC (0, 0, [])
theorem Zcs {α β : Type} {f : β → α → β} {l : List α} {k : Nat} {x : α} {z : β} (h : l[k]? = some x) : (l.take (k + 1)).foldl f z = f ((l.take k).foldl f z) x := by
  rw [List.take_add_one, h, List.foldl_append]; rfl
theorem Zhr {bl : List Tri} {k : Nat} {b : Tri} (h : bl[k]? = some b) : stC bl (k + 1) = stepC (stC bl k) b := Zcs h
theorem Zjq {bl : List Tri} : ∀ k, (stC bl k).2.2.length ≤ 2 * k
  | 0 => by simp [stC]
  | k + 1 => by
    have ih := Zjq (bl := bl) k
    cases h : bl[k]? with
    | none =>
      have hk : bl.length ≤ k := List.getElem?_eq_none_iff.mp h
      have : stC bl (k + 1) = stC bl k := by unfold stC; rw [List.take_of_length_le (by lia), List.take_of_length_le hk]
      rw [this]; lia
    | some b =>
      rw [Zhr h]
      simp only [stepC, List.length_append]
      split <;> split <;> simp <;> lia
noncomputable def Zj2 (bl : List Tri) : List Op := (bl.foldl stepC (0, 0, [])).2.2
theorem Zmg (bl : List Tri) : Zj2 bl = (stC bl bl.length).2.2 := by unfold Zj2 stC; rw [List.take_length]
noncomputable def oAV (o : Op) : AV := .tup [.str (S o.1), .int o.2.1, .int o.2.2.1, .int o.2.2.2.1, .int o.2.2.2.2]
noncomputable def IC (hb : Hp) (aA : Addr) (bl : List Tri) (k : Nat) (m : Loc) (hp : Hp) : Prop :=
  m (S "answer") = some (.ref aA) ∧ m (S "i") = some (.int (stC bl k).1) ∧ m (S "j") = some (.int (stC bl k).2.1) ∧ hp aA = some (.list ((stC bl k).2.2.map oAV)) ∧ Hp.Le hb hp
noncomputable def codS (i : Nat) : Stmt := (Zbm (mS 8)).getD i (.Pass ⟨0, 0, 0, 0⟩)
section
variable {A : Around} {env : Env} {m : Loc} {hp : Hp}
theorem Zi0 {L it aA : Addr} {hb hp : Hp} {m : Loc} {bl : List Tri} {k : Nat} {b : Tri} {ob : Obj} {KK : AF → Loc → Hp → Prop} (G : Gnd (KW W0) B0) (hh : A.handled = none) (hlen : bl.length ≤ 200) (hk : bl[k]? = some b) (I : IC hb aA bl k m hp) (hba : hb aA = none) (haL : aA ≠ L) (hai : aA ≠ it) (hit : hp it = some (.obj ob))
    (hK : ∀ m' hp', IC hb aA bl (k + 1) m' hp' → hp' it = some (.obj ob) → KK .next m' hp') :
    ASG (model PW W0) B0 (fun _ _ => False) A (callEnv Zdt L 210) (kidT (codS 4)) (triV b) m hp fun m' hp' => EXs (model PW W0) B0 (fun _ _ => False) A (callEnv Zdt L 210) (kids (codS 4)) m' hp' KK := by
  refine hide fun Gq kq => ?_
  obtain ⟨h1, h2, h3, h4, h5⟩ := I
  refine kq ?_; clear kq Gq
  have hst := Zhr hk
  have hlc := Zjq (bl := bl) k
  have hkl : k < bl.length := (List.getElem?_eq_some_iff.mp hk).1
  refine Zdv G (by kernel_rfl) (by kernel_rfl) hh rfl rfl rfl (Zan (Zak (Zan (Zak (Zan (Zak (Zaq ?_)))))))
  generalize stC bl k = st at *
  try dsimp only
  generalize hm1 : upd (upd (upd m _ _) _ _) _ _ = m1
  have g1 : m1 (S "answer") = some (.ref aA) := by subst hm1; (first | assumption | rfl)
  have g2 : m1 (S "i") = some (.int st.1) := by subst hm1; (first | assumption | rfl)
  have g3 : m1 (S "j") = some (.int st.2.1) := by subst hm1; (first | assumption | rfl)
  have g4 : m1 (S "ai") = some (.int b.1) := by subst hm1; (first | assumption | rfl)
  have g5 : m1 (S "bj") = some (.int b.2.1) := by subst hm1; (first | assumption | rfl)
  have g6 : m1 (S "size") = some (.int b.2.2) := by subst hm1; (first | assumption | rfl)
  clear hm1 h1 h2 h3
  refine Zac (Zao (Zbk ?_))
  try dsimp only
  generalize hm2 : upd m1 _ _ = m2
  have f1 : m2 (S "answer") = some (.ref aA) := by subst hm2; (first | assumption | rfl)
  have f2 : m2 (S "i") = some (.int st.1) := by subst hm2; (first | assumption | rfl)
  have f3 : m2 (S "j") = some (.int st.2.1) := by subst hm2; (first | assumption | rfl)
  have f4 : m2 (S "ai") = some (.int b.1) := by subst hm2; (first | assumption | rfl)
  have f5 : m2 (S "bj") = some (.int b.2.1) := by subst hm2; (first | assumption | rfl)
  have f6 : m2 (S "size") = some (.int b.2.2) := by subst hm2; (first | assumption | rfl)
  have f7 : m2 (S "tag") = some (.str (S "")) := by subst hm2; (first | assumption | rfl)
  clear hm2 g1 g2 g3 g4 g5 g6
  refine Zln (fun m' hp' => hp' = hp ∧ (∀ y, y ≠ "tag" → m' (S y) = m2 (S y)) ∧ m' (S "tag") = some (.str (S (Zbn st.1 b.1 st.2.1 b.2.1)))) ?_ ?_
  · refine Zq2 fun KT hKT => ?_
    have fin : ∀ t : String, Zbn st.1 b.1 st.2.1 b.2.1 = t → KT .next (upd m2 (S "tag") (.str (S t))) hp := fun t ht => hKT _ _ _ ⟨rfl, rfl, fun y hy => by rw [ug, if_neg hy], by rw [ug, if_pos rfl, ht]⟩
    refine Za4 (Zaz (Zai (Zad (Zaa f2 (Zaa f4 (Zcu (Zaf ?_)))))))
    by_cases c1 : st.1 < b.1
    · refine Zcm c1 ?_
      refine Zai (Zad (Zaa f3 (Zaa f5 (Zcu (Zaf ?_)))))
      by_cases c2 : st.2.1 < b.2.1
      · refine Zcm c2 ?_
        refine Za2 ?_
        refine if_t ?_
        exact Zac (Zao (Zbk (Zag (fin _ (by unfold Zbn; rw [if_pos c1, if_pos c2])))))
      · refine Zch c2 (if_f ?_)
        refine Zac (Za4 (Zad (Zaa f2 (Zaa f4 (Zcu (Zaf ?_))))))
        refine Zcm c1 ?_
        exact Zac (Zao (Zbk (Zag (Zag (fin _ (by unfold Zbn; rw [if_pos c1, if_neg c2]))))))
    · refine Zch c1 (if_f ?_)
      refine Zac (Za4 (Zad (Zaa f2 (Zaa f4 (Zcu (Zaf ?_))))))
      refine Zch c1 ?_
      refine Zac (Za4 (Zad (Zaa f3 (Zaa f5 (Zcu (Zaf ?_))))))
      by_cases c2 : st.2.1 < b.2.1
      · refine Zcm c2 ?_
        exact Zac (Zao (Zbk (Zag (Zag (Zag (fin _ (by unfold Zbn; rw [if_neg c1, if_pos c2])))))))
      · refine Zch c2 ?_
        refine Zag (Zag (Zag (hKT _ _ _ ⟨rfl, rfl, fun _ _ => rfl, ?_⟩)))
        rw [show Zbn st.1 b.1 st.2.1 b.2.1 = "" from by unfold Zbn; rw [if_neg c1, if_neg c2]]
        exact f7
  · rintro m3 hp3 ⟨rfl, e3, g7⟩
    have g1 : m3 (S "answer") = some (.ref aA) := by rw [e3 _ (by decide)]; exact f1
    have g2 : m3 (S "i") = some (.int st.1) := by rw [e3 _ (by decide)]; exact f2
    have g3 : m3 (S "j") = some (.int st.2.1) := by rw [e3 _ (by decide)]; exact f3
    have g4 : m3 (S "ai") = some (.int b.1) := by rw [e3 _ (by decide)]; exact f4
    have g5 : m3 (S "bj") = some (.int b.2.1) := by rw [e3 _ (by decide)]; exact f5
    have g6 : m3 (S "size") = some (.int b.2.2) := by rw [e3 _ (by decide)]; exact f6
    clear e3 f1 f2 f3 f4 f5 f6 f7
    have rest : ∀ hp4 ops, ops = st.2.2 ++ (if Zbn st.1 b.1 st.2.1 b.2.1 = "" then [] else [(Zbn st.1 b.1 st.2.1 b.2.1, st.1, b.1, st.2.1, b.2.1)]) → ops.length ≤ 2 * k + 1 → hp4 aA = some (.list (ops.map oAV)) → Hp.Le hb hp4 → hp4 it = some (.obj ob) →
        EXs (model PW W0) B0 (fun _ _ => False) A (callEnv Zdt L 210) ((kids (codS 4)).drop 3) m3 hp4 KK := fun hp4 ops ho hol h4' h5' hit' => by
      refine Zac (Zar hh (names := [S "i", S "j"]) (Zap (Zab (Zah (Zaa g4 (Zaa g6 (Zat (Zab (Zah (Zaa g5 (Zaa g6 (Zat (Zae ⟨sz rfl, _, rfl, rfl, Zal (Zal (Zaq ?_))⟩)))))))))))))
      have hst' : stC bl (k + 1) = (b.1 + b.2.2, b.2.1 + b.2.2, ops ++ (if b.2.2 = 0 then [] else [("equal", b.1, b.1 + b.2.2, b.2.1, b.2.1 + b.2.2)])) := by
        rw [hst, stepC, ho, List.append_assoc]
      refine Zac (Za4 (Za9 (Zaa (v := .int b.2.2) (by first | assumption | rfl) (Zfv ?_))))
      by_cases hs : b.2.2 = 0
      · refine Zdd (show (b.2.2 != 0) = false from by simp [hs]) ?_
        refine Zag (Zag (hK _ _ ⟨?_, ?_, ?_, ?_, h5'⟩ hit'))
        · (first | assumption | rfl)
        · rw [hst']; (first | assumption | rfl)
        · rw [hst']; (first | assumption | rfl)
        · rw [hst', if_pos hs, List.append_nil]; exact h4'
      · refine Zed (show (b.2.2 != 0) = true from by simpa using hs) ?_
        refine Zac (Za3 (Zba (Zaa (v := .ref aA) (by first | assumption | rfl) ⟨aA, _, rfl, h4', haL, Zab (Zap (Zab (Zbk (Zab (Zaa (v := .int b.1) (by first | assumption | rfl) (Zab (Zaa (v := .int (b.1 + b.2.2)) (by first | assumption | rfl) (Zab (Zaa (v := .int b.2.1) (by first | assumption | rfl) (Zab (Zaa (v := .int (b.2.1 + b.2.2)) (by first | assumption | rfl) (Zae ⟨sz rfl, Zae ⟨_, _, rfl, h4', by rw [List.length_map]; exact sz' (by lia), ?_⟩⟩))))))))))))⟩)))
        refine ⟨by simp, by simp, by simp, Zag (Zag (hK _ _ ⟨?_, ?_, ?_, ?_, h5'.set hba _⟩ (Hp.snt (Ne.symm hai) hit')))⟩
        · (first | assumption | rfl)
        · rw [hst']; (first | assumption | rfl)
        · rw [hst']; (first | assumption | rfl)
        · rw [Hp.ss, hst', if_neg hs]; simp [oAV]
    refine Zac (Za4 (Za9 (Zaa g7 (Zo6 ?_ ?_))))
    · unfold Zbn; split <;> split <;> decide
    · by_cases ht : Zbn st.1 b.1 st.2.1 b.2.1 = ""
      · rw [ht, if_neg (by decide)]
        refine Zag (rest _ st.2.2 (by rw [if_pos ht, List.append_nil]) (by lia) h4 h5 hit)
      · have : ((S (Zbn st.1 b.1 st.2.1 b.2.1)).length != 0) = true := by
          revert ht; unfold Zbn; split <;> split <;> intro ht <;> first | decide | exact absurd rfl ht
        rw [this, if_pos rfl]
        refine Zac (Za3 (Zba (Zaa g1 ⟨aA, _, rfl, h4, haL, Zab (Zap (Zab (Zaa g7 (Zab (Zaa g2 (Zab (Zaa g4 (Zab (Zaa g3 (Zab (Zaa g5 (Zae ⟨sz rfl, Zae ⟨_, _, rfl, h4, by rw [List.length_map]; exact sz' (by lia), ?_⟩⟩))))))))))))⟩)))
        refine ⟨by simp, by simp, by simp, Zag (rest _ (st.2.2 ++ [(Zbn st.1 b.1 st.2.1 b.2.1, st.1, b.1, st.2.1, b.2.1)]) (by rw [if_neg ht]) (by simp; omega) ?_ (h5.set hba _) (Hp.snt (Ne.symm hai) hit))⟩
        rw [Hp.ss]; simp [oAV]
end
section
variable {A : Around} {env : Env} {m : Loc} {hp : Hp}
noncomputable def codesF (as bs : List Int) (aj : Bool) : List Op := Zj2 (mbF (flmW as bs aj) as.length bs.length)
theorem Zly {x dx aA bA : Addr} {as bs : List Int} {aj : Bool} {Q : AV → Hp → Prop} (G : Gnd (KW W0) B0) (hh : A.handled = none) (hu : A.units + 20 < cLine) (hroom : A.depth + 6 < recursionLimit) {hq : Hp} (hle : Hp.Le hq hp) (MM : MT hq env.locals x dx (.ref aA) (.ref bA) bs aj .none .none)
    (la : Lst B0 hp env.locals aA (as.map .int)) (lb : Lst B0 hp env.locals bA (bs.map .int)) (hla : as.length ≤ 4000) (hlb : bs.length ≤ 4000) (hraw : (rawB (flmW as bs aj) as.length bs.length).length < 64) (hres : (mbF (flmW as bs aj) as.length bs.length).length ≤ 200)
    (h : ∀ hp' hq' r rb, hp r = none → r ≠ env.locals → hp' r = some (.list ((codesF as bs aj).map oAV)) → MT hq' env.locals x dx (.ref aA) (.ref bA) bs aj (.ref rb) (.ref r) → Hp.Le hq' hp' → (∀ z, hq z = none → hq' z = none) → (∀ z o, z ≠ dx → z ≠ env.locals → hp z = some o → hp' z = some o) → hp' env.locals = none → Q (.ref r) hp') :
    CL (model PW W0) B0 E0 A env (.ref 210) m [.ref x] hp Q := by
  refine CD.cl (Ze0 (bs := [(S "self", .ref x)]) (body := Zbm (mS 8)) G (Zqc W0) (by kernel_rfl) rfl (by (exact ul0 (by assumption))) (fun s vs hv _ => ?_) (by kernel_rfl) (by decide) (fun L hL hLe => ?_))
  · refine hide fun Gq kq => ?_
    obtain ⟨v, rfl, h1⟩ := Zbo hv
    refine kq ?_; clear kq Gq
    exact ⟨[(S "self", v)], BindsTo.of_eq rfl, rfl, VRs.one h1⟩
  · refine hide fun Gq kq => ?_
    have M' := MM.call (m := m) (hle.none hL)
    have hqb : Hp.Le (hq.set env.locals (.ns m)) (hp.set env.locals (.ns m)) := fun z o e => by
      by_cases hz : z = env.locals
      · rw [hz, Hp.ss] at e ⊢; exact e
      · rw [Hp.sn _ _ hz] at e ⊢; exact hle _ _ e
    have hqn : ∀ z, hq z = none → z ≠ env.locals → (hq.set env.locals (.ns m)) z = none := fun z e hz => Hp.snt hz e
    have la' := la.call (m := m) hL
    have lb' := lb.call (m := m) hL
    have hcl : (hp.set env.locals (.ns m)) env.locals = some (.ns m) := Hp.ss ..
    have hLc : (hp.set env.locals (.ns m)) L = none := Hp.snt hLe hL
    have hback : ∀ z o, z ≠ env.locals → hp z = some o → (hp.set env.locals (.ns m)) z = some o := fun z o hz e => Hp.snt hz e
    have hbn : ∀ z, (hp.set env.locals (.ns m)) z = none → hp z = none ∧ z ≠ env.locals := fun z hz => by
      have : z ≠ env.locals := fun e => by rw [e, Hp.ss] at hz; cases hz
      exact ⟨Hp.snr this hz, this⟩
    have g0 : Za0 [(S "self", AV.ref x)] (S "self") = some (.ref x) := rfl
    generalize hm0 : Za0 [(S "self", AV.ref x)] = m0 at *
    generalize hp.set env.locals (.ns m) = hb at *
    generalize hq.set env.locals (.ns m) = hqE at *
    have dE : dx ≠ env.locals := MM.xL.2.1
    have dL : dx ≠ L := M'.xL.2.1
    obtain ⟨ma, I0, hmb, hop, hno, _⟩ := M'.keep
    refine kq ?_; clear kq Gq
    have I := I0.le hqb
    refine Zac (Zdo ?_)
    refine Zac (Za4 (Zad (Zbp G g0 I hop (Zcv (Zdz (Zaf ?_))))))
    refine Zdd (show (!AV.isNone .none) = false from rfl) ?_
    refine Zag (Zac (Zbb (Zaj (Zak (Zak ?_)))))
    refine Zac (Zbb (Zbq (Zae ⟨Nat.zero_le _, fun aX haX haL => ?_⟩)))
    refine hide fun Gq kq => ?_
    have lea : Hp.Le hb (hb.set aX (.list [])) := (Hp.Le.refl _).set haX _
    obtain ⟨ma1, Iq, _, _, _, _, _, _, k1⟩ := M'.keep
    refine kq ?_; clear kq Gq
    have I1 := (Iq.le hqb).le lea
    have Mq := k1 (.ref aX)
    have leq : Hp.Le (hqE.set dx (.atr (upd ma1 (S "opcodes") (.ref aX)))) ((hb.set aX (.list [])).set dx (.atr (upd ma1 (S "opcodes") (.ref aX)))) := fun z o e => by
      by_cases hz : z = dx
      · subst hz; rw [Hp.ss] at e ⊢; exact e
      · rw [Hp.sn _ _ hz] at e ⊢; exact lea _ _ (hqb _ _ e)
    have hadx : aX ≠ dx := fun e => by rw [e, I.at_] at haX; cases haX
    refine Za5 G (by first | assumption | rfl) I1 (Zak ?_)
    have hA1 : ((hb.set aX (.list [])).set dx (.atr (upd ma1 (S "opcodes") (.ref aX)))) aX = some (.list []) := Hp.snt hadx (Hp.ss ..)
    have keep1 : ∀ z o, z ≠ dx → hb z = some o → ((hb.set aX (.list [])).set dx (.atr (upd ma1 (S "opcodes") (.ref aX)))) z = some o := fun z o hz e => Hp.snt hz (lea _ _ e)
    have hqa : (hqE.set dx (.atr (upd ma1 (S "opcodes") (.ref aX)))) aX = none := Hp.snt hadx (hqb.none haX)
    have hqz : ∀ z, hqE z = none → (hqE.set dx (.atr (upd ma1 (S "opcodes") (.ref aX)))) z = none := fun z e => Hp.snt (fun h => by rw [h, Iq.at_] at e; cases e) e
    have M1 := Mq.le leq
    generalize (hb.set aX (.list [])).set dx (.atr (upd ma1 (S "opcodes") (.ref aX))) = hp1 at M1 hA1 keep1 leq ⊢
    generalize hqE.set dx (.atr (upd ma1 (S "opcodes") (.ref aX))) = hq1 at Mq leq hqa hqz
    try dsimp only
    generalize hm1 : upd (upd (upd m0 _ _) _ _) _ _ = m1
    refine hide fun Gq kq => ?_
    have p1 : m1 (S "self") = some (.ref x) := by subst hm1; (first | assumption | rfl)
    have p2 : m1 (S "answer") = some (.ref aX) := by subst hm1; (first | assumption | rfl)
    have p3 : m1 (S "i") = some (.int 0) := by subst hm1; (first | assumption | rfl)
    have p4 : m1 (S "j") = some (.int 0) := by subst hm1; (first | assumption | rfl)
    clear hm1 g0
    obtain ⟨ma2, I2, hmb2, _, hno2, _⟩ := M1.keep
    refine kq ?_; clear kq Gq
    have lstk : ∀ {a : Addr} {xs : List AV}, Lst B0 hb L a xs → Lst B0 hp1 L a xs := fun {a xs} y => by
      rcases y with ⟨e, hh'⟩ | e
      · exact .inl ⟨keep1 _ _ (fun h => by rw [h, I.at_] at e; cases e) e, hh'⟩
      · exact .inr e
    refine Zac (Zem hh (Zfy G (clsS W0) (f := 203) (by kernel_rfl) (by kernel_rfl) (by kernel_rfl) (Zaa p1 ⟨x, dx, _, rfl, I2, hno2 "get_matching_blocks" (by decide), ?_⟩)))
    refine Zq5 (A := A.deeper (callEnv Zdt L 210)) (as := as) (bs := bs) G hh (by show A.units + 3 + 10 < _; lia) (by show A.depth + 1 + 5 < _; omega) leq Mq (lstk la') (lstk lb') hla hlb hraw fun hp2 hq2 rb hr0 hrL hr2 M2 le2 no2 keep2 hL2 => ?_
    have haX2 : hp2 aX = some (.list []) := keep2 _ _ hadx haL hA1
    refine ⟨rb, _, rfl, .own hr2 hrL, fun it hit hitL => ?_⟩
    have hai : aX ≠ it := Hp.ne_of haX2 hit
    have hri : rb ≠ it := Hp.ne_of hr2 hit
    have har : aX ≠ rb := Hp.ne_of hA1 hr0
    have hbA : (hp2.del aX) aX = none := by simp [Hp.del]
    have leA : Hp.Le (hp2.del aX) hp2 := Hp.del_le _ _
    have hbi : (hp2.del aX) it = none := leA.none hit
    have hbr : (hp2.del aX) rb = some (.list ((mbF (flmW as bs aj) as.length bs.length).map triV)) := by rw [Hp.del_ne _ (Ne.symm har)]; exact hr2
    refine ⟨fun k m₂ hp₂ => IC (hp2.del aX) aX (mbF (flmW as bs aj) as.length bs.length) k m₂ hp₂, fun ob => ?_, fun k m₂ hp₂ ob y => ⟨y.1, y.2.1, y.2.2.1, Hp.snt hai y.2.2.2.1, y.2.2.2.2.set hbi _⟩, fun k m₂ hp₂ y => .own (y.2.2.2.2 _ _ hbr) hrL, fun k v m₂ hp₂ ob hv y hob => ?_, fun m₂ hp₂ y => ?_⟩
    · exact ⟨p2, p3, p4, Hp.snt hai haX2, leA.set hbi _⟩
    · refine hide fun Gq kq => ?_
      obtain ⟨b, hbk, rfl⟩ : ∃ b, (mbF (flmW as bs aj) as.length bs.length)[k]? = some b ∧ triV b = v := by
        rw [List.getElem?_map] at hv
        exact Option.map_eq_some_iff.mp hv
      refine kq ?_; clear kq Gq
      exact Zi0 (A := A.deeper (callEnv Zdt L 210)) G hh hres hbk y hbA haL hai hob fun m' hp' q1 q2 => ⟨q1, q2⟩
    · refine hide fun Gq kq => ?_
      obtain ⟨y1, y2, y3, y4, y5⟩ := y
      refine kq ?_; clear kq Gq
      rw [List.length_map] at y4
      refine Zac (Za6 (Zaa y1 ?_))
      refine hide fun Gq kq => ?_
      have l5 : Hp.Le (hp2.del aX) (hp₂.del it) := y5.del hbi
      have hE2 : hp2 env.locals = some (.ns m) := keep2 _ _ (Ne.symm dE) (Ne.symm hLe) (keep1 _ _ (Ne.symm dE) hcl)
      have hEa : env.locals ≠ aX := fun e => by rw [← e, hcl] at haX; cases haX
      have hl9 : (hp₂.del it) env.locals = some (.ns m) := l5 _ _ (by rw [Hp.del_ne _ hEa]; exact hE2)
      obtain ⟨r1, r2⟩ := hbn aX haX
      refine kq ?_; clear kq Gq
      have haX9 : (hp₂.del it) aX = some (.list ((codesF as bs aj).map oAV)) := by rw [Hp.del_ne _ hai, codesF, Zmg]; exact y4
      have hqc : ∀ z o, hq2 z = some o → z ≠ env.locals → z ≠ L → (Hp.cut (hp₂.del it) env.locals L) z = some o := fun z o e hzE hzL => by
        have hza : z ≠ aX := fun h => by rw [h, no2 _ hqa] at e; cases e
        rw [Hp.cut_eq hzE hzL]; exact l5 _ _ (by rw [Hp.del_ne _ hza]; exact le2 _ _ e)
      refine Zcr hl9 (h _ (Hp.cut hq2 env.locals L) aX rb r1 r2 ?_ (M2.move fun z o e hns hz => ?_) (fun z o e => ?_) (fun z e => ?_) (fun z o hz hzE e => ?_) (by simp [Hp.cut]))
      · rw [Hp.cut_eq r2 (show aX ≠ L from haL)]; exact haX9
      · have hzE : z ≠ env.locals := fun h => by have e' := le2 _ _ e; rw [h, hE2] at e'; cases e'; exact hns _ rfl
        exact ⟨by rw [Hp.cut_eq hzE (show z ≠ L from hz)]; exact e, hzE⟩
      · by_cases hzE : z = env.locals
        · rw [hzE] at e; simp [Hp.cut] at e
        · by_cases hzL : z = L
          · rw [hzL] at e; simp [Hp.cut] at e
          · rw [Hp.cut_eq hzE hzL] at e; exact hqc z o e hzE hzL
      · by_cases hzE : z = env.locals
        · rw [hzE]; simp [Hp.cut]
        · by_cases hzL : z = L
          · rw [hzL]; simp [Hp.cut]
          · rw [Hp.cut_eq hzE hzL]; exact no2 _ (hqz _ (hqn z e hzE))
      · have hz1 := hback z o hzE e
        have hzL : z ≠ L := Hp.ne_of hz1 hLc
        have hza : z ≠ aX := Hp.ne_of hz1 haX
        rw [Hp.cut_eq hzE hzL]
        exact l5 _ _ (by rw [Hp.del_ne _ hza]; exact keep2 _ _ hz hzL (keep1 _ _ hz hz1))
theorem Zlz {x dx aA bA : Addr} {as bs : List Int} {aj : Bool} {Q : AV → Hp → Prop} (G : Gnd (KW W0) B0) (hh : A.handled = none) (hu : A.units + 20 < cLine) (hroom : A.depth + 6 < recursionLimit) (MM : MT hp env.locals x dx (.ref aA) (.ref bA) bs aj .none .none)
    (la : Lst B0 hp env.locals aA (as.map .int)) (lb : Lst B0 hp env.locals bA (bs.map .int)) (hla : as.length ≤ 4000) (hlb : bs.length ≤ 4000) (hraw : (rawB (flmW as bs aj) as.length bs.length).length < 64) (hres : (mbF (flmW as bs aj) as.length bs.length).length ≤ 200)
    (h : ∀ hp' r rb, hp r = none → r ≠ env.locals → hp' r = some (.list ((codesF as bs aj).map oAV)) → MT hp' env.locals x dx (.ref aA) (.ref bA) bs aj (.ref rb) (.ref r) → (∀ z o, z ≠ dx → z ≠ env.locals → hp z = some o → hp' z = some o) → hp' env.locals = none → Q (.ref r) hp') :
    CL (model PW W0) B0 E0 A env (.ref 210) m [.ref x] hp Q :=
  Zly G hh hu hroom (Hp.Le.refl _) MM la lb hla hlb hraw hres fun hp' hq' r rb h1 h2 h3 h4 h5 _ h6 h7 => h hp' r rb h1 h2 h3 (h4.le h5) h6 h7
end
section
variable {A : Around} {E : Value → Shared → Prop} {env : Env} {m : Loc} {hp : Hp} {K : Frag}
theorem Zpf {a : Addr} {ns : List Int} {Q : AV → Hp → Prop} (hh : A.handled = none) (hl : Lst B0 hp env.locals a (ns.map .int)) (hne : ns ≠ []) (h : ∀ k, k ∈ ns → (∀ x ∈ ns, x ≤ k) → Q (.int k) hp) : CL (model PW W0) B0 E A env (.builtin "max") m [.ref a] hp Q := fun s vs r hv => by
  obtain ⟨v, rfl, h1⟩ := Zbo hv
  simp only [VR] at h1; subst h1
  obtain ⟨us, hlst, hus⟩ := r.lst hl
  obtain ⟨xs, hx, hns⟩ := Zid hus
  have hi : us = intItems xs.toArray := by
    apply Array.toList_inj.mp
    rw [hx]; simp [intItems]
  rw [hi] at hlst
  have hpos : 0 < xs.toArray.size := by
    cases xs with
    | nil => exact absurd hns.symm hne
    | cons _ _ => simp
  refine max_intList hh hlst hpos fun v h' tk hv k => ?_
  obtain ⟨r', le⟩ := r.grown k tk
  obtain ⟨b1, b2⟩ := argBest_gt (numAt xs.toArray) (xs.toArray.size - 1)
  generalize argBest (fun i j => decide (numAt xs.toArray i > numAt xs.toArray j)) (xs.toArray.size - 1) = i0 at *
  have hi0 : i0 < xs.length := by simp at hpos b1; lia
  have num : ∀ j, (hj : j < xs.length) → numAt xs.toArray j = (xs[j]).1 := fun j hj => by simp [numAt, hj]
  have hve : v = .int (xs[i0]).1 (xs[i0]).2 := by
    simp [intItems, hi0] at hv
    exact hv.symm
  subst hve
  refine mkV (av := .int (xs[i0]).1) r' le VR_int (h _ ?_ fun y hy => ?_)
  · rw [← hns]; exact List.mem_map_of_mem (List.getElem_mem hi0)
  · rw [← hns] at hy
    obtain ⟨p, hp', rfl⟩ := List.mem_map.mp hy
    obtain ⟨j, hj, rfl⟩ := List.getElem_of_mem hp'
    have := b2 j (by simp; lia)
    rw [num i0 hi0, num j hj] at this
    exact this
theorem VRs.reverse {h : Heap} : ∀ {xs : List AV} {vs : List Value}, VRs h xs vs → VRs h xs.reverse vs.reverse
  | [], vs, e => by simp only [VRs] at e; subst e; simp [VRs]
  | x :: xs, vs, e => by
    simp only [VRs] at e
    obtain ⟨v, r, rfl, h1, h2⟩ := e
    rw [List.reverse_cons, List.reverse_cons]
    exact VRs.append (VRs.reverse h2) (VRs.one h1)
noncomputable abbrev Zhi (PW : Program) (W0 : World) (A : Around) (E : Value → Shared → Prop) (B0 : Shared) (env : Env) (m : Loc) (e : Expr) (Q : AV → Hp → Prop) : AV → Hp → Prop := fun l hp₁ => ∃ a xs₁, l = .ref a ∧ hp₁ a = some (.list xs₁) ∧ a ≠ env.locals ∧ EVS (model PW W0) B0 E A env [e] m hp₁ fun vs hp₂ => ∃ xs b ys, vs = [.ref b] ∧ hp₂ a = some (.list xs) ∧ hp₂ b = some (.list ys) ∧ b ≠ env.locals ∧ xs.length + ys.length ≤ 5000 ∧ Q .none (hp₂.set a (.list (xs ++ ys)))
theorem Zgz {o e : Expr} {apos pos} {pl : Sem Bool} {Q : AV → Hp → Prop}
    (h : EV (model PW W0) B0 E A env o m hp (Zhi PW W0 A E B0 env m e Q))
    (hc : eval (.Call (.Attribute o (PySem.Str.ofString "extend") apos) [e] [] pos) env = (do
      let ov ← eval o env
      standAt apos.atName
      let (f, first) ← holding [ov] (getMethod ov (PySem.Str.ofString "extend") pl)
      callWith pos f first (backTo pos (starEach [e] env)) []) := by rfl)
    (he : starEach [e] env = [(false, eval e env)] := by rfl) :
    EV (model PW W0) B0 E A env (.Call (.Attribute o (PySem.Str.ofString "extend") apos) [e] [] pos) m hp Q := fun s r => by
  refine MethodCall_ (pl := pl) (h.use r fun u s₁ l hp₁ r₁ le₁ hu x => ?_) hc
  refine hide fun Gq kq => ?_
  obtain ⟨a, xs₁, rfl, ha, hL, q⟩ := x
  refine kq ?_; clear kq Gq
  simp only [VR] at hu; subst hu
  refine Zd2 F.slot_list_extend F.type_list_extend r₁ ha hL ?_
  refine callWith_method1 (Zc3 (q pos s₁ r₁) fun vs s₂ avs hp₂ r₂ le₂ hv x => ?_) he
  refine hide fun Gq kq => ?_
  obtain ⟨xs, b, ys, rfl, ha₂, hb, hbL, hsz, q⟩ := x
  obtain ⟨y, rfl, hy⟩ := Zbo hv
  simp only [VR] at hy; subst hy
  obtain ⟨us, n, hl, hus⟩ := r₂.at ha₂ hL
  obtain ⟨ws, n2, hlb, hws⟩ := r₂.at hb hbL
  refine kq ?_; clear kq Gq
  have e2 : us.size = xs.length := by rw [← Array.length_toList]; exact hus.length
  have e3 : ws.size = ys.length := by rw [← Array.length_toList]; exact hws.length
  have hz := sizeLine_eq
  refine call_meets F.slot_list_extend ⟨_, hl, rfl⟩ F.entry_list_extend (F.args_list_extend_2 _ _) (AutoSeq1.list_extend_list_list_0 a us n b ws n2 ?_ (by lia) (by lia)) ⟨hl, hlb, ?_⟩
  · simp only [Bool.and_eq_true, Builtin.List.listTooLong, decide_eq_true_eq]
    rintro ⟨_, h2⟩; lia
  have hs : Heap.SameBut a s₂.heap (s₂.heap.update a (Obj.mapSeq fun x => x ++ ws)) := Heap.SameBut.update ..
  have z := IsL.update hl (fun x => x ++ ws)
  have t := r₂.turn (a := a) (Hp.snt hL ha₂) hs (.list (xs ++ ys)) (fun le => ⟨us ++ ws, _, z, by rw [Array.toList_append]; exact (hus.mono le).append (hws.mono le)⟩) s₂.toks
  rw [Hp.sc _ _ _ (Ne.symm hL)] at t
  exact mkV (av := .none) t.1 ((le₁.trans le₂).trans t.2) VR_none q
noncomputable abbrev Zhk (PW : Program) (W0 : World) (A : Around) (E : Value → Shared → Prop) (B0 : Shared) (env : Env) (m : Loc) (st : Expr) (Q : AV → Hp → Prop) : AV → Hp → Prop := fun o hp₁ => EV (model PW W0) B0 E A env st m hp₁ fun c hp₂ => ∃ a xs, o = .ref a ∧ c = .int (-1) ∧ Lst B0 hp₂ env.locals a xs ∧ xs.length ≤ 5000 ∧ ∀ b, hp₂ b = none → b ≠ env.locals → Q (.ref b) (hp₂.set b (.list xs.reverse))
theorem Zer {value st : Expr} {p pos} {Q : AV → Hp → Prop}
    (h : EV (model PW W0) B0 E A env value m hp (Zhk PW W0 A E B0 env m st Q))
    (ht : ∀ o r, letTemporaryGo value o r = pure () := by intro _ _; rfl) :
    EV (model PW W0) B0 E A env (.Subscript value (.Slice none none (some st) p) pos) m hp Q := fun s r => by
  refine wpAny_Subscript_Slice_step (T := "list") list_getitem_lookup (h.use r fun u s₁ o hp₁ r₁ le₁ hu h₁ => wpAny_Slice ?_) ht
  rw [evalPart_none]
  refine wpAny_pure (wpAny_pure ?_)
  refine h₁.use r₁ fun vc s₂ c hp₂ r₂ le₂ hc h₂ => ?_
  refine hide fun Gq kq => ?_
  obtain ⟨a, xs, rfl, rfl, hls, hsz, q⟩ := h₂
  simp only [VR] at hu; subst hu
  simp only [VR] at hc; obtain ⟨t, rfl⟩ := hc
  obtain ⟨vs, hlst, hvs⟩ := r₂.lst hls
  refine kq ?_; clear kq Gq
  have e : vs.size = xs.length := by rw [← Array.length_toList]; exact hvs.length
  have hz := sizeLine_eq
  refine ⟨(hlst.push _).typeIs, wpAny_getItem_list_slice (hlst.push _) (Heap.IsSliceOf.new ..) .none .none (.int ..) (by decide) ?_ (by lia)⟩
  have r₄ := r₂.push { cls := .type "slice", data := .fields #[.none, .none, .int (-1) t] }
  have le₄ : ImmLe s₂.heap (s₂.heap.push { cls := .type "slice", data := .fields #[.none, .none, .int (-1) t] }) := ImmLe.keep fun b o'' e => Heap.get?_push_of_some _ e
  rw [krv_pick]
  have n := Rel.newAt r₄ { cls := .type "list", data := .seq vs.toList.reverse.toArray } (.list xs.reverse) ⟨_, 0, IsL.new _ _, by
    have := hvs.mono (le₄.trans (ImmLe.keep fun b o'' e => Heap.get?_push_of_some { cls := .type "list", data := .seq vs.toList.reverse.toArray } e))
    exact this.reverse⟩
  exact mkV (av := .ref _) n.1 ((le₁.trans le₂).trans (le₄.trans n.2.2.2)) VR_ref (q _ n.2.1 n.2.2.1)
end
section
variable {A : Around} {E : Value → Shared → Prop} {env : Env} {m : Loc} {hp : Hp} {K : Frag}
theorem Zlm {target : Expr} {body : List Stmt} {it : Addr} {n : Nat} {el : Nat → AV} {st : Nat → Obj → Prop} {I : Nat → Loc → Hp → Prop} {Q : AF → Loc → Hp → Prop} {R : Result → Shared → Prop} {s₀ : Shared} (hL : it ≠ env.locals)
    (imm : ∀ i ob, st i ob → ¬ Imm ob)
    (next : ∀ i m₂ hp₂ s ob, i < n → I i m₂ hp₂ → hp₂ it = some (.obj ob) → st i ob → Rel B0 (hp₂.set env.locals (.ns m₂)) s → ImmLe s₀.heap s.heap → ∀ (E' : Value → Shared → Prop) (W : Option Value → Shared → Prop),
      (∀ v h' t' ob', VR s.heap (el i) v → h'.get? it = some ob' → st (i + 1) ob' → Heap.SameBut it s.heap h' → W (some v) { s with heap := h', toks := t' }) → wpAny (model PW W0) A (pyNext (.ref it)) W E' s)
    (stop : ∀ m₂ hp₂ s ob, I n m₂ hp₂ → hp₂ it = some (.obj ob) → st n ob → Rel B0 (hp₂.set env.locals (.ns m₂)) s → ImmLe s₀.heap s.heap → ∀ (E' : Value → Shared → Prop) (W : Option Value → Shared → Prop),
      (∀ h' t', Heap.ExtBut it s.heap h' → W none { s with heap := h', toks := t' }) → wpAny (model PW W0) A (pyNext (.ref it)) W E' s)
    (hset : ∀ i m₂ hp₂ ob, I i m₂ hp₂ → I i m₂ (hp₂.set it (.obj ob)))
    (turn : ∀ i m₂ hp₂ ob, i < n → I i m₂ hp₂ → hp₂ it = some (.obj ob) → ASG (model PW W0) B0 (fun _ _ => False) A env target (el i) m₂ hp₂ fun m₃ hp₃ => EXs (model PW W0) B0 (fun _ _ => False) A env body m₃ hp₃ fun fl m₄ hp₄ =>
      match fl with | .next | .cont => I (i + 1) m₄ hp₄ ∧ hp₄ it = some (.obj ob) | .brk => Q .next m₄ hp₄ | .ret v => Q (.ret v) m₄ hp₄)
    (fin : ∀ m₂ hp₂, I n m₂ hp₂ → Q .next m₂ (hp₂.del it))
    (hR : ∀ fl af m' hp' s', Rel B0 (hp'.set env.locals (.ns m')) s' → ImmLe s₀.heap s'.heap → FR s'.heap af fl → Q af m' hp' → R (.ok fl) s')
    {s : Shared} {ob : Obj} (h0 : I 0 m hp) (hob : hp it = some (.obj ob)) (hst : st 0 ob) (rel : Rel B0 (hp.set env.locals (.ns m)) s) (le₀ : ImmLe s₀.heap s.heap)
    (cl : ∀ i ob, st i ob → ∃ n, ob.cls = .type n ∧ ["enumerate", "zip", "dict_itemiterator", "dict_reverseitemiterator", "odict_iterator", "itertools.zip_longest", "itertools.pairwise"].contains n = false) :
    codeAny (model PW W0) A (.forLoop target (.ref it) body [] env) R s := by
  refine codeAny_forLoop_any (fun k s' => ∃ i m₂ hp₂ ob, k = n - i ∧ i ≤ n ∧ I i m₂ hp₂ ∧ hp₂ it = some (.obj ob) ∧ st i ob ∧ Rel B0 (hp₂.set env.locals (.ns m₂)) s' ∧ ImmLe s₀.heap s'.heap) (fun k s' x => ?_) n ⟨0, m, hp, ob, rfl, Nat.zero_le _, h0, hob, hst, rel, le₀⟩
  refine hide fun Gq kq => ?_
  obtain ⟨i, m₂, hp₂, ob, rfl, hi, hI, hob, hst, r, le⟩ := x
  refine kq ?_; clear kq Gq
  by_cases hlt : i < n
  · refine next i m₂ hp₂ s' ob hlt hI hob hst r le _ _ fun v h' t' ob' hv hg hst' hs => ?_
    refine hide fun Gq kq => ?_
    have t := r.turn (a := it) (o := .obj ob) (Hp.snt hL hob) hs (.obj ob') (fun _ => ⟨hg, imm _ _ hst'⟩) t'
    rw [Hp.sc _ _ _ (Ne.symm hL)] at t
    obtain ⟨nm, hcl, hno⟩ := cl _ _ hst'
    refine kq ?_; clear kq Gq
    refine Zbu hg hcl hno ?_
    have hturn := turn i m₂ (hp₂.set it (.obj ob')) ob' hlt (hset _ _ _ _ hI) (Hp.ss ..)
    refine Zn5 (hturn _ v t.1 (hv.mono t.2)) fun _ s₃ m₃ hp₃ r₃ le₃ q => ?_
    refine Zn3 (q s₃ r₃) fun fl s₄ af m₄ hp₄ r₄ le₄ hf q => ?_
    have leAll : ImmLe s₀.heap s₄.heap := ((le.trans t.2).trans le₃).trans le₄
    cases af with
    | next => cases hf; exact ⟨n - (i + 1), Zbt hlt, i + 1, m₄, hp₄, ob', rfl, hlt, q.1, q.2, hst', r₄, leAll⟩
    | cont => cases hf; exact ⟨n - (i + 1), Zbt hlt, i + 1, m₄, hp₄, ob', rfl, hlt, q.1, q.2, hst', r₄, leAll⟩
    | brk => cases hf; exact hR _ .next _ _ _ r₄ leAll rfl q
    | ret v => obtain ⟨u, rfl, hu⟩ := hf; exact hR _ (.ret v) _ _ _ r₄ leAll ⟨u, rfl, hu⟩ q
  · have : i = n := by lia
    subst this
    refine stop m₂ hp₂ s' ob hI hob hst r le _ _ fun h' t' he => ?_
    refine hide fun Gq kq => ?_
    obtain ⟨r', le'⟩ := r.drop hob hL he t'
    refine kq ?_; clear kq Gq
    exact wpAny_execs_nil (hR _ .next _ _ _ r' (le.trans le') rfl (fin _ _ hI))
theorem Zo8 {target iter : Expr} {body : List Stmt} {pos} {Q : AF → Loc → Hp → Prop} (hh : A.handled = none)
    (h : EV (model PW W0) B0 E A env iter m hp fun o hp₁ => ∃ xs, o = .tup xs ∧ ∀ it, hp₁ it = none → it ≠ env.locals → ∃ I : Nat → Loc → Hp → Prop,
      (∀ ob, I 0 m (hp₁.set it (.obj ob))) ∧ (∀ i m₂ hp₂ ob, I i m₂ hp₂ → I i m₂ (hp₂.set it (.obj ob))) ∧
      (∀ i x m₂ hp₂ ob, xs[i]? = some x → I i m₂ hp₂ → hp₂ it = some (.obj ob) → ASG (model PW W0) B0 (fun _ _ => False) A env target x m₂ hp₂ fun m₃ hp₃ => EXs (model PW W0) B0 (fun _ _ => False) A env body m₃ hp₃ fun fl m₄ hp₄ =>
        match fl with | .next | .cont => I (i + 1) m₄ hp₄ ∧ hp₄ it = some (.obj ob) | .brk => Q .next m₄ hp₄ | .ret v => Q (.ret v) m₄ hp₄) ∧
      (∀ m₂ hp₂, I xs.length m₂ hp₂ → Q .next m₂ (hp₂.del it)))
    (hs : ∀ x, foldedSetIterable iter env x = pure x := by intro _; rfl) :
    EX (model PW W0) B0 E A env (.For target iter body [] pos) m hp Q := fun s r => by
  refine wpAny_For (h.use r fun u s₁ o hp₁ r₁ le₁ hu x => ?_) hs
  refine hide fun Gq kq => ?_
  obtain ⟨xs, rfl, x⟩ := x
  simp only [VR] at hu
  obtain ⟨a, vs, rfl, ht, hvs⟩ := hu
  refine kq ?_; clear kq Gq
  refine wpAny_pyIter_tuple ht ?_
  refine hide fun Gq kq => ?_
  have n := r₁.newAt { cls := .type "tuple_iterator", data := .fields #[.ref a, .int 0 0] } (.obj { cls := .type "tuple_iterator", data := .fields #[.ref a, .int 0 0] }) ⟨Heap.get?_push_size _ rfl, fun i => by obtain ⟨_, _, _, e⟩ := i; cases e⟩
  obtain ⟨I, h0, hset, turn, fin⟩ := x _ n.2.1 n.2.2.1
  refine kq ?_; clear kq Gq
  have ht2 := IsTup.imm n.2.2.2 ht
  have hv2 := hvs.mono n.2.2.2
  refine Zlm (n := xs.length) (el := fun i => xs.getD i .none) (st := fun i ob => ob.cls = .type "tuple_iterator" ∧ ob.data = .fields #[.ref a, .int i 0]) (I := I) (Q := Q) (s₀ := { s₁ with heap := s₁.heap.push { cls := .type "tuple_iterator", data := .fields #[.ref a, .int 0 0] } }) n.2.2.1 (fun i ob x i' => by obtain ⟨_, _, _, e⟩ := i'; rw [x.2] at e; cases e)
    (fun i m₂ hp₂ s' ob hi hI hob hst r' le E' W k => ?_) (fun m₂ hp₂ s' ob hI hob hst r' le E' W k => ?_) hset (fun i m₂ hp₂ ob hi hI hob => turn i _ m₂ hp₂ ob (by simp [List.getD, List.getElem?_eq_getElem hi]) hI hob) fin
    (fun fl af m' hp' s' r' le' hf q => mkX (af := af) r' ((le₁.trans n.2.2.2).trans le') hf q) (h0 _) (Hp.ss ..) ⟨rfl, rfl⟩ n.1 (.refl _) (fun _ _ x => ⟨_, x.1, rfl⟩)
  · refine hide fun Gq kq => ?_
    obtain ⟨v, hv, hxv⟩ := (hv2.mono le).get (i := i) (x := xs.getD i .none) (by simp [List.getD, List.getElem?_eq_getElem hi])
    refine kq ?_; clear kq Gq
    have hg : s'.heap.get? s₁.heap.objs.size = some ob := (r'.at hob n.2.2.1).1
    refine wpAny_pyNext_tuple_item (i := i) ⟨ob, hg, hst.1, hst.2⟩ (IsTup.imm le ht2) (by simpa using hv) fun h' hit' hs' => ?_
    refine hide fun Gq kq => ?_
    obtain ⟨ob', hg', hc', hd'⟩ := hit'
    refine kq ?_; clear kq Gq
    exact k v h' s'.toks ob' hxv hg' ⟨hc', hd'⟩ hs'
  · have hg : s'.heap.get? s₁.heap.objs.size = some ob := (r'.at hob n.2.2.1).1
    refine wpAny_pyNext_tuple_end hh (i := xs.length) ⟨ob, hg, hst.1, hst.2⟩ (IsTup.imm le ht2) ?_ fun h' he => k h' s'.toks he
    have e : vs.size = xs.length := by rw [← Array.length_toList]; exact hvs.length
    exact Array.getElem?_eq_none (by lia)
end
noncomputable def dofs (p : Nat → Bool) (fk : Nat → Int) (fv : Nat → AV) : Nat → List (Int × AV)
  | 0 => []
  | n + 1 => if p n then dput (dofs p fk fv n) (fk n) (fv n) else dofs p fk fv n
theorem dofs_s {p : Nat → Bool} {fk : Nat → Int} {fv : Nat → AV} {n : Nat} : dofs p fk fv (n + 1) = if p n then dput (dofs p fk fv n) (fk n) (fv n) else dofs p fk fv n := rfl
theorem Zha (kvs : List (Int × AV)) (k : Int) (v : AV) : (dput kvs k v).length ≤ kvs.length + 1 := by
  unfold dput
  split <;> simp
theorem Zeg (p : Nat → Bool) (fk : Nat → Int) (fv : Nat → AV) : ∀ n, (dofs p fk fv n).length ≤ n
  | 0 => Nat.le_refl _
  | n + 1 => by
    have ih := Zeg p fk fv n
    have h := Zha (dofs p fk fv n) (fk n) (fv n)
    rw [dofs_s]; split <;> lia
section
variable {A : Around} {E : Value → Shared → Prop} {env : Env} {m : Loc} {hp : Hp} {K : Frag}
noncomputable abbrev DInv (B0 : Shared) (p : Nat → Bool) (fk : Nat → Int) (fv : Nat → AV) (hp₀ : Hp) (a b : Int) (it acc C : Addr) (h₀ : Heap) (k : Nat) (s' : Shared) : Prop :=
  ∃ i m₂ hp₂ ob, k = (b - a).toNat - i ∧ i ≤ (b - a).toNat ∧ Hp.Le hp₀ hp₂ ∧ rgSt a b i ob ∧ hp₂ it = some (.obj ob) ∧ hp₂ acc = some (.dict (dofs p fk fv i)) ∧ Rel B0 (hp₂.set C (.ns m₂)) s' ∧ ImmLe h₀ s'.heap
theorem Zjw {a b : Int} {i : Nat} {ob : Obj} (h : rgSt a b i ob) : ¬ Imm ob := fun i' => by obtain ⟨_, _, _, e⟩ := i'; rw [h] at e; cases e
theorem Ziz {kx vx iter : Expr} {x : PySem.Str} {tpos} {ifs : List Expr} {scope : Scope} {pos : Pos} {cl : List (PySem.Str × Addr)} {p : Nat → Bool} {fk : Nat → Int} {fv : Nat → AV} {Q : AV → Hp → Prop} {s s₁ s₂ : Shared} {it acc C : Addr} {itob : Obj} {a b : Int} (hh : A.handled = none)
    (hx : (compEnvC scope cl C env).kindOf x = some .local) (hkind : scope.kind = .function) (hlen : (b - a).toNat ≤ 5000) (f : Fr B0 hp env.locals m s₁ s₂ it acc C itob (.dict [])) (st0 : rgSt a b 0 itob) (le₁ : ImmLe s.heap s₁.heap)
    (turn : ∀ m₂ hp₂ (i : Nat), i < (b - a).toNat → Hp.Le (hp.set env.locals (.ns m)) hp₂ → m₂ x = some (.int (a + i)) →
        TSTs (model PW W0) B0 (fun _ _ => False) A (compEnvC scope cl C env) ifs m₂ hp₂ fun t hp₄ => t = p i ∧ Hp.Le hp₂ hp₄ ∧ (t = true → EV (model PW W0) B0 (fun _ _ => False) A (compEnvC scope cl C env) kx m₂ hp₄ fun v hp₅ => v = .int (fk i) ∧ Hp.Le hp₄ hp₅ ∧ EV (model PW W0) B0 (fun _ _ => False) A (compEnvC scope cl C env) vx m₂ hp₅ fun y hp₆ => y = fv i ∧ Hp.Le hp₅ hp₆))
    (fin : Q (.ref acc) (hp.set acc (.dict (dofs p fk fv (b - a).toNat)))) :
    codeAny (model PW W0) A (.compLoop (.DictComp kx vx [⟨.Name x tpos, iter, ifs, 0⟩] scope pos) 0 (.ref it) (.ref acc) (compEnvC scope cl C env))
      (compPost (model PW W0) A E none (fun v s' => ∃ av hp', Rel B0 (hp'.set env.locals (.ns m)) s' ∧ ImmLe s.heap s'.heap ∧ VR s'.heap av v ∧ Q av hp') (.ref acc) C) s₂ := by
  have b1 : (hp.set env.locals (.ns m)) it = none := Hp.snt f.a2 f.a1
  have b2 : (hp.set env.locals (.ns m)) acc = none := Hp.snt f.a4 f.a3
  refine Zdj rfl (DInv B0 p fk fv (hp.set env.locals (.ns m)) a b it acc C s.heap)
    (fun k s' y W X hD hA => ?_) (b - a).toNat ⟨0, _, _, _, rfl, Nat.zero_le _, ((Hp.Le.refl _).set b1 _).set b2 _, st0, Hp.snt (Ne.symm f.a5) (Hp.ss ..), Hp.ss .., f.rel, le₁.trans f.le⟩
  refine hide fun Gq kq => ?_
  obtain ⟨i, m₂, hp₂, ob, rfl, hi, hle, hst, hob, hac, r', le⟩ := y
  refine kq ?_; clear kq Gq
  show wpAny _ A ((compTurn (.DictComp kx vx [⟨.Name x tpos, iter, ifs, 0⟩] scope pos) 0 (.ref it) (.ref acc) (compEnvC scope cl C env)).onRaise (fun x => do noteFrame x (compEnvC scope cl C env); theTreesLotGoes x)) _ _ s'
  refine wpAny_noted ?_
  rw [compTurn_dict]
  refine wpAny_bind (wpAny_standAt (wpAny_bind ?_))
  have hg := (r'.at (env := compEnvC scope cl C env) hob (Ne.symm f.a8)).1
  by_cases hlt : i < (b - a).toNat
  · refine Ze4 hlt hst hg _ _ fun v h' t' ob' hv hg' hst' hs => ?_
    have t := r'.turn (a := it) (o := .obj ob) (Hp.snt (Ne.symm f.a8) hob) hs (.obj ob') (fun _ => ⟨hg', Zjw hst'⟩) t'
    rw [Hp.sc _ _ _ f.a8] at t
    refine wpAny_bind (Zbu hg' (congrArg Obj.cls hst') rfl ?_)
    have hle1 := hle.set b1 (.obj ob')
    have hac1 : (hp₂.set it (.obj ob')) acc = some (.dict (dofs p fk fv i)) := Hp.snt f.a5 hac
    have hob1 : (hp₂.set it (.obj ob')) it = some (.obj ob') := Hp.ss ..
    clear hle hac hob
    generalize hp₂.set it (.obj ob') = hp3 at t hle1 hac1 hob1
    have asg : ASG (model PW W0) B0 (fun _ _ => False) A (compEnvC scope cl C env) (.Name x tpos) (.int (a + i)) m₂ hp3 fun m₃ hp₃ => m₃ x = some (.int (a + i)) ∧ hp₃ = hp3 := Zak ⟨by simp [upd], rfl⟩ hx (by show (scope.kind == .class || (scope.kind == .module && _)) = false; rw [hkind]; rfl)
    refine wpAny_bind (Zn5 (asg _ _ t.1 (hv.mono t.2)) fun _ s₃ m₃ hp₃ r₃ le₃ q => wpAny_bind ?_)
    refine Zpo (turn m₃ hp₃ i hlt (q.2.symm ▸ hle1) q.1 s₃ r₃) fun ok s₄ hp₄ r₄ le₄ q₂ => ?_
    have leA := ((le.trans t.2).trans le₃).trans le₄
    refine hide fun Gq kq => ?_
    obtain ⟨_, rfl⟩ := q
    obtain ⟨rfl, l4, q⟩ := q₂
    refine kq ?_; clear kq Gq
    cases hp' : p i with
    | false =>
      refine wpAny_pure (hA _ _ (Zbt hlt) ⟨i + 1, m₃, hp₄, _, rfl, hlt, hle1.trans l4, hst', l4 _ _ hob1, ?_, r₄, leA⟩)
      rw [l4 _ _ hac1, dofs_s, hp']; rfl
    | true =>
      refine wpAny_bind (wpAny_bind (Zn4 (q hp' s₄ r₄) fun kv s₅ av hp₅ r₅ le₅ hkv q => wpAny_bind (wpAny_holding ?_)))
      refine Zn4 (q.2.2 s₅ r₅) fun vv s₆ bv hp₆ r₆ le₆ hvv q₂ => wpAny_bind (wpAny_standAt (wpAny_holding ?_))
      refine hide fun Gq kq => ?_
      obtain ⟨rfl, l5, _⟩ := q
      obtain ⟨rfl, l6⟩ := q₂
      have hac6 := l6 _ _ (l5 _ _ (l4 _ _ hac1))
      obtain ⟨ps, hD, hK⟩ := r₆.dict hac6 (Ne.symm f.a9)
      have hlen' := Zeg p fk fv i
      refine kq ?_; clear kq Gq
      refine wpAny_dictSet_pairs (knd := intKind PW W0) (k := fk i) (Zb9 (hkv.mono le₆)) (hD PW W0) (fun h6 hD6 hs6 => ?_) (by rw [hK.length]; have := sizeLine_eq; lia)
      have y := r₆.putDict (kvs' := dput (dofs p fk fv i) (fk i) (fv i)) hac6 (Ne.symm f.a9) hD6 hs6 (fun le => KVR.put (hvv.mono le) (hK.mono le)) (s₆.toks + 1)
      refine wpAny_pure (hA _ _ (Zbt hlt) ⟨i + 1, m₃, _, _, rfl, hlt, (((hle1.trans l4).trans l5).trans l6).set b2 _, hst', Hp.snt (Ne.symm f.a5) (l6 _ _ (l5 _ _ (l4 _ _ hob1))), ?_, y.1, ((leA.trans le₅).trans le₆).trans y.2⟩)
      rw [Hp.ss, dofs_s, hp']; rfl
  · have hie : i = (b - a).toNat := by lia
    subst hie
    refine Ze3 hh hst hg _ _ fun h' t' he => ?_
    have d := r'.drop (env := compEnvC scope cl C env) hob (Ne.symm f.a8) he t'
    refine wpAny_pure (hD _ _ (Zd8 (hp.set acc (.dict (dofs p fk fv (b - a).toNat))) acc C m₂ _ f.a7 (Hp.snt f.a9 f.a6) (d.1.sub (Zjp f.a7 (Hp.snt f.a9 f.a6) fun z o hz => ?_)) (le.trans d.2) fin))
    have hzi : z ≠ it := fun e => by
      rw [e, Hp.sn _ _ f.a2, Hp.sn _ _ (Ne.symm f.a5), f.a1] at hz; cases hz
    rw [Hp.del_ne _ hzi]
    by_cases hza : z = acc
    · rw [hza, Hp.sn _ _ f.a4, Hp.ss] at hz
      rw [hza, hac]; exact hz
    · refine hle _ _ ?_
      rw [Hp.sc _ _ _ f.a4] at hz
      rwa [Hp.sn _ _ hza] at hz
noncomputable abbrev DCP (PW : Program) (W0 : World) (A : Around) (B0 : Shared) (env : Env) (m : Loc) (x : PySem.Str) (ifs : List Expr) (kx vx : Expr) (scope : Scope) (cl : List (PySem.Str × Addr)) (p : Nat → Bool) (fk : Nat → Int) (fv : Nat → AV) (Q : AV → Hp → Prop) (o : AV) (hp₁ : Hp) : Prop :=
  ∃ rg ob a b, o = .ref rg ∧ hp₁ rg = some (.obj ob) ∧ rg ≠ env.locals ∧ RangeOb ob a b ∧ -(2 ^ 62) ≤ a ∧ a < 2 ^ 62 ∧ -(2 ^ 62) ≤ b ∧ b < 2 ^ 62 ∧ (b - a).toNat ≤ 5000 ∧
      (∀ C m₂ hp₂ (i : Nat), i < (b - a).toNat → hp₁ C = none → C ≠ env.locals → Hp.Le (hp₁.set env.locals (.ns m)) hp₂ → m₂ x = some (.int (a + i)) →
        TSTs (model PW W0) B0 (fun _ _ => False) A (compEnvC scope cl C env) ifs m₂ hp₂ fun t hp₄ => t = p i ∧ Hp.Le hp₂ hp₄ ∧ (t = true → EV (model PW W0) B0 (fun _ _ => False) A (compEnvC scope cl C env) kx m₂ hp₄ fun v hp₅ => v = .int (fk i) ∧ Hp.Le hp₄ hp₅ ∧ EV (model PW W0) B0 (fun _ _ => False) A (compEnvC scope cl C env) vx m₂ hp₅ fun y hp₆ => y = fv i ∧ Hp.Le hp₅ hp₆)) ∧
      ∀ acc, hp₁ acc = none → acc ≠ env.locals → Q (.ref acc) (hp₁.set acc (.dict (dofs p fk fv (b - a).toNat)))
theorem Zjk {kx vx iter : Expr} {x : PySem.Str} {tpos} {ifs : List Expr} {scope : Scope} {pos : Pos} {cl : List (PySem.Str × Addr)} {p : Nat → Bool} {fk : Nat → Int} {fv : Nat → AV} {Q : AV → Hp → Prop} (hh : A.handled = none) (hclos : closureFor scope env = pure cl) (hcell : ∀ y ∈ scope.names, y.2 ≠ .cell) (hnames : ∀ x ∈ scope.names, x.2 = .local → scope.names.lookup x.1 = some .local)
    (hx : ∀ C, (compEnvC scope cl C env).kindOf x = some .local)
    (h : EV (model PW W0) B0 E A env iter m hp (DCP PW W0 A B0 env m x ifs kx vx scope cl p fk fv Q))
    (hs : ∀ x, foldedSetIterable iter env x = pure x := by intro _; rfl) (hkind : scope.kind = .function := by rfl) :
    EV (model PW W0) B0 E A env (.DictComp kx vx [⟨.Name x tpos, iter, ifs, 0⟩] scope pos) m hp Q := fun s r => by
  rw [arm_eval_DictComp]
  refine wpAny_comprehension_free (use := none) rfl hs hclos hkind hnames (h.use r fun u s₁ o hp₁ r₁ le₁ hu x => ?_)
  refine hide fun Gq kq => ?_
  obtain ⟨rg, ob, a, b, rfl, hrg, hrL, ⟨t, u', v', rfl⟩, ha, ha', hb, hb', hlen, turn, fin⟩ := x
  refine kq ?_; clear kq Gq
  simp only [VR] at hu; subst hu
  refine wpAny_pyIter_range (r₁.at hrg hrL).1 (small_one ha ha' hb hb') ?_
  refine wpAny_newObj_type (Ze7 (ao := .dict []) hcell hkind r₁ rfl (Zjw (Zoh a b)) ⟨[], IDict.of (Heap.DictOf.new (knd := intKind PW W0) _), rfl, by simp [VRs]⟩ fun C s₂ f => ?_)
  have loop := Ziz (iter := iter) (tpos := tpos) (pos := pos) (E := E) (Q := Q) hh (hx C) hkind hlen f (Zoh a b) le₁ (fun m₂ hp₂ i hi => turn C m₂ hp₂ i hi f.a6 f.a7) (fin _ f.a3 f.a4)
  exact codeAny_compStart_dict loop (wpAny_pyIter_rangeiter (x := a) (left := Builtin.Range.rangeSize a b 1) (step := 1) f.at_ loop)
end
theorem Zbd {α β : Type} (f : α → β) (xs : List α) (lo hi : Option Int) : pick (xs.map f) lo hi = (pick xs lo hi).map f := by
  unfold pick; rw [List.length_map, List.map_take, List.map_drop]
theorem clipN (n a : Nat) : clipAt n (a : Int) = min a n := by
  unfold clipAt; rw [if_neg (Int.not_lt.mpr (Int.natCast_nonneg _))]
  rcases Nat.le_total a n with h | h
  · rw [Nat.min_eq_left h, Int.min_eq_left (Int.ofNat_le.mpr h), Int.max_eq_right (Int.natCast_nonneg _), Int.toNat_natCast]
  · rw [Nat.min_eq_right h, Int.min_eq_right (Int.ofNat_le.mpr h), Int.max_eq_right (Int.natCast_nonneg _), Int.toNat_natCast]
theorem Zd9 {α : Type} (xs : List α) (a : Nat) : pick xs none (some (a : Int)) = xs.take a := by
  unfold pick
  simp only [Option.elim, clipN, List.drop_zero, Nat.sub_zero]
  rw [List.take_eq_take_iff]; lia
theorem Zcg {α : Type} (xs : List α) (a : Nat) : pick xs (some (a : Int)) none = xs.drop a := by
  unfold pick
  simp only [Option.elim, clipN]
  rw [List.take_of_length_le (by rw [List.length_drop]; exact Nat.le_refl _)]
  by_cases h : a ≤ xs.length
  · rw [Nat.min_eq_left h]
  · rw [Nat.min_eq_right (by lia), List.drop_of_length_le (by (exact Nat.le_refl _)), List.drop_of_length_le (by lia)]
theorem Zfg {α : Type} (xs : List α) (a b : Nat) : pick xs (some (a : Int)) (some ((a : Int) + (b : Int))) = (xs.drop a).take b := by
  unfold pick
  rw [show (a : Int) + (b : Int) = ((a + b : Nat) : Int) from by rfl]
  simp only [Option.elim, clipN]
  by_cases h : a ≤ xs.length
  · rw [Nat.min_eq_left h, List.take_eq_take_iff, List.length_drop, ← Nat.sub_min_sub_right, Nat.add_sub_cancel_left, Nat.min_assoc, Nat.min_self]
  · rw [List.drop_of_length_le (by lia), List.drop_of_length_le (by lia)]; simp
theorem Zj1 {α : Type} (xs : List α) : pick xs none (some (-1)) = xs.dropLast := by
  unfold pick
  simp only [Option.elim, List.drop_zero, Nat.sub_zero]
  rw [List.dropLast_eq_take]
  congr 1
  unfold clipAt; rw [if_pos (by decide)]
  cases xs with
  | nil => rfl
  | cons x xs =>
    rw [List.length_cons, Nat.add_sub_cancel, show (-1 : Int) + ((xs.length + 1 : Nat) : Int) = (xs.length : Int) from by lia, Int.min_eq_left (Int.ofNat_le.mpr (Nat.le_succ _)), Int.max_eq_right (Int.natCast_nonneg _), Int.toNat_natCast]
theorem Zdf (a : Int) {b : Int} (h : 0 ≤ b) : a.fmod b = a % b := Int.fmod_eq_emod_of_nonneg a h
theorem Zd3 (a : Int) {b : Int} (h : 0 ≤ b) : a.fdiv b = a / b := Int.fdiv_eq_ediv_of_nonneg a h
noncomputable def Zbs (made : Int) (n : Nat) : List Int := (List.range n).map fun (k : Nat) => made + (k : Int)
noncomputable def outF (t : List Int) (made : Int) : List Int := ((List.range made.toNat).map fun (k : Nat) => (k : Int)).filter fun l => !t.contains l
structure Deed where
  kind : Int
  at_ : Nat
  one : Nat
  two : Nat
  x : Int
noncomputable def Zgd (x : Int) (n : Nat) : Deed := ⟨x % 6, (x / 6 % ((n : Int) + 1)).toNat, (1 + x / 6 / ((n : Int) + 1) % 4).toNat, (1 + x / 6 / ((n : Int) + 1) / 4 % 4).toNat, x / 6 / ((n : Int) + 1)⟩
noncomputable def Zbr (d : Deed) (t : List Int) (made : Int) : List Int × List Int × List Int :=
  let head := t.take d.at_
  let tail := t.drop d.at_
  if d.kind = 0 then (head ++ Zbs made d.one ++ tail, [], [])
  else if d.kind = 1 then (head ++ tail.drop d.one, [], [])
  else if d.kind = 2 then
    let p := tail.take d.one
    let q := (tail.drop d.one).take d.two
    (head ++ q ++ p ++ tail.drop (d.one + d.two), if p.length ≥ q.length then q else p, if q.length ≥ p.length then p else q)
  else if d.kind = 3 then
    let u := tail.take (d.one + d.two)
    (head ++ u.reverse ++ tail.drop (d.one + d.two), u.drop 1, u.dropLast)
  else if d.kind = 5 then (head ++ Zbs made d.two ++ tail.drop d.one, [], [])
  else (head ++ ((outF t made).drop (d.x / 16 % (((outF t made).length : Int) + 1)).toNat).take d.one ++ tail, [], [])
noncomputable def Zdi (x : Int) (t : List Int) (made : Int) : List Int × List Int × List Int := Zbr (Zgd x t.length) t made
noncomputable abbrev iL (xs : List Int) : List AV := xs.map .int
section
variable {A : Around} {env : Env} {m : Loc} {hp : Hp}
theorem Zgy {L : Addr} {y : PySem.Str} {n : Nat} {made : Int} {p1 p2 p3 p4 p5 p6 p7 p8 : Pos} {Q : AV → Hp → Prop} (G : Gnd (KW W0) B0) (hh : A.handled = none) (hn : n ≤ 10)
    (hy : (callEnvC fdDeed L 251).kindOf y = some .local) (hm : m y = some (.int n)) (hc : hp (L + 2) = some (.cell (some (.int made))))
    (h : ∀ hp' acc, hp acc = none → acc ≠ L → Hp.Le hp hp' → hp' acc = some (.list (iL (Zbs made n))) → Q (.ref acc) hp')
    (hyd : (y == ("__debug__" : PySem.Str)) = false) :
    EV (model PW W0) B0 E0 A (callEnvC fdDeed L 251) (.ListComp (.BinOp (.Name (S "made") p1) .Add (.Name (S "k") p2) p3) [⟨.Name (S "k") p4, .Call (.Name (S "range") p5) [.Name y p6] [] p7, [], 0⟩]
      ({ kind := .function, names := [(S ".0", .local), (S "k", .local), (S "made", .free)], isGenerator := false, isCoroutine := false, more := [] } : Scope) p8) m hp Q := by
  have hcL : L + 2 ≠ L := by simp
  refine Zg0 (p := fun _ => true) (e := fun i => .int (made + (i : Int))) (cl := [(S "made", L + 2)]) hh rfl (by decide) (by decide) (fun _ => rfl) ?_
  refine Zc0 (Zay G (Zcw W0) Zci (by decide) (fun _ => Zdl) ⟨rfl, Zab (Zaa hm (Zae (Zeu fun r ob hr hrL ro => ?_)) (hl := hy) (hd := hyd))⟩)
  refine ⟨r, ob, 0, n, rfl, Hp.ss .., hrL, ro, by decide, by decide, by (exact Int.natCast_nonneg _), by lia, by (exact Nat.le_trans (by assumption) (by decide)), fun C m₂ hp₃ i hi hC hCL hle3 hm₂ => ?_, fun acc hacc haccL => ?_⟩
  · have hle : Hp.Le hp (hp.set r (.obj ob)) := (Hp.Le.refl _).set hr _
    have e1 : hp₃ (L + 2) = some (.cell (some (.int made))) := hle3 _ _ (by rw [show (callEnvC fdDeed L 251).locals = L from rfl, Hp.sn _ _ hcL]; exact hle _ _ hc)
    have n1 : L + 2 ≠ C := Hp.ne_of (hle _ _ hc) hC
    refine Zfu ⟨rfl, .refl _, fun _ => ?_⟩
    refine Zah (Zax (c := L + 2) rfl e1 n1 (Zaa hm₂ (Zat ⟨?_, .refl _⟩)))
    rw [Int.zero_add]
  · refine h _ acc (((Hp.Le.refl hp).set hr _).none hacc) haccL (((Hp.Le.refl _).set hr _).set (((Hp.Le.refl hp).set hr _).none hacc) _) ?_
    rw [Hp.ss, show ((n : Int) - 0).toNat = n from by (exact Int.toNat_natCast _)]
    rw [List.filter_eq_self.mpr (fun _ _ => rfl)]
    simp [Zbs]
end
theorem iteT {c : Bool} {p q : Prop} (h : c = true) (x : p) : if c = true then p else q := by rw [if_pos h]; exact x
theorem iteF {c : Bool} {p q : Prop} (h : c = false) (x : q) : if c = true then p else q := by rw [h, if_neg Bool.false_ne_true]; exact x
theorem Zas {made : Int} {n k : Nat} (h : n ≤ k) : (Zbs made n).length ≤ k := by unfold Zbs; rw [List.length_map, List.length_range]; exact h
section
variable {A : Around} {env : Env} {m : Loc} {hp : Hp}
theorem Zcq {e1 e2 : Expr} {p : Pos} {Q : AV → Hp → Prop}
    (h : EV (model PW W0) B0 E0 A env e1 m hp fun v hp1 => EV (model PW W0) B0 E0 A env e2 m hp1 fun u hp2 => ∃ a b xs ys, v = .ref a ∧ u = .ref b ∧ hp2 a = some (.list xs) ∧ a ≠ env.locals ∧ hp2 b = some (.list ys) ∧ b ≠ env.locals ∧ xs.length + ys.length ≤ 5000 ∧ ∀ c hp3, hp2 c = none → c ≠ env.locals → Hp.Le hp2 hp3 → hp3 c = some (.list (xs ++ ys)) → Q (.ref c) hp3) :
    EV (model PW W0) B0 E0 A env (.BinOp e1 .Add e2 p) m hp Q :=
  Zah (EV.mono h fun v hp1 y => EV.mono y fun u hp2 x => by
    refine hide fun Gq kq => ?_
    obtain ⟨a, b, xs, ys, rfl, rfl, h1, h2, h3, h4, h5, k⟩ := x
    refine kq ?_; clear kq Gq
    exact Zle h1 h2 h3 h4 (by have := sizeLine_eq; (exact Nat.le_trans (by assumption) (by decide))) fun c hc hcL => k c _ hc hcL ((Hp.Le.refl _).set hc _) (Hp.ss ..))
theorem Zb4 {value : Expr} {lower upper : Option Expr} {p pos} {Q : AV → Hp → Prop}
    (h : EV (model PW W0) B0 E0 A env value m hp fun o hp₁ => optE (model PW W0) B0 E0 A env lower m hp₁ fun lo hp₂ => optE (model PW W0) B0 E0 A env upper m hp₂ fun hi hp₃ =>
      ∃ a xs kl ku, o = .ref a ∧ Lst B0 hp₃ env.locals a xs ∧ xs.length ≤ 5000 ∧ Zf4 lo = some kl ∧ Zf4 hi = some ku ∧ ∀ b hp4, hp₃ b = none → b ≠ env.locals → Hp.Le hp₃ hp4 → hp4 b = some (.list (pick xs kl ku)) → Q (.ref b) hp4)
    (ht : ∀ o r, letTemporaryGo value o r = pure () := by intro _ _; rfl) :
    EV (model PW W0) B0 E0 A env (.Subscript value (.Slice lower upper none p) pos) m hp Q := by
  refine Znn (EV.mono h fun o hp1 y => ?_) ht
  have mo : ∀ (e : Option Expr) (hp : Hp) (P R : AV → Hp → Prop), optE (model PW W0) B0 E0 A env e m hp P → (∀ v hp', P v hp' → R v hp') → optE (model PW W0) B0 E0 A env e m hp R := fun e hp P R a b => by
    cases e with
    | none => exact b _ _ a
    | some e => exact EV.mono a b
  refine mo _ _ _ _ y fun lo hp2 y => mo _ _ _ _ y fun hi hp3 y => ?_
  refine hide fun Gq kq => ?_
  obtain ⟨a, xs, kl, ku, h1, h2, h3, h4, h5, k⟩ := y
  refine kq ?_; clear kq Gq
  exact ⟨a, xs, kl, ku, h1, h2, by have := sizeLine_eq; (exact Nat.le_trans (by assumption) (by decide)), h4, h5, fun b hb hbL => k b _ hb hbL ((Hp.Le.refl _).set hb _) (Hp.ss ..)⟩
theorem Zd4 {e1 e2 : Expr} {op : Operator} {p0 p1 p2 p : Pos} {k : Tok} {Q : AV → Hp → Prop}
    (h : EV (model PW W0) B0 E0 A env (.BinOp e1 op e2 p0) m hp fun v hp1 => ∃ a xs, v = .ref a ∧ hp1 a = some (.list xs) ∧ a ≠ env.locals ∧ ∀ hp2 b c, b ≠ env.locals → c ≠ env.locals → hp1 b = none → hp1 c = none → Hp.Le hp1 hp2 → hp2 a = some (.list xs) → hp2 b = some (.list []) → hp2 c = some (.list []) → Q (.tup [.ref a, .ref b, .ref c]) hp2) :
    EV (model PW W0) B0 E0 A env (.Tuple [.BinOp e1 op e2 p0, .List [] p1, .List [] p2] k p) m hp Q := by
  refine Zap (Zab (EV.mono h fun v hp1 y => ?_))
  refine hide fun Gq kq => ?_
  obtain ⟨a, xs, rfl, h1, h2, k⟩ := y
  refine kq ?_; clear kq Gq
  refine Zab (Zbq (Zae ⟨Nat.zero_le _, fun b hb hbL => Zab (Zbq (Zae ⟨Nat.zero_le _, fun c hc hcL => Zae ⟨sz rfl, ?_⟩⟩))⟩))
  have l1 : Hp.Le hp1 (hp1.set b (.list [])) := (Hp.Le.refl _).set hb _
  have l2 : Hp.Le (hp1.set b (.list [])) ((hp1.set b (.list [])).set c (.list [])) := (Hp.Le.refl _).set hc _
  exact k _ b c hbL hcL hb (l1.none hc) (l1.trans l2) (l2 _ _ (l1 _ _ h1)) (l2 _ _ (Hp.ss ..)) (Hp.ss ..)
end
structure DS (B0 : Shared) (hb : Hp) (L aT : Addr) (d : Deed) (t : List Int) (made : Int) (aH aR : Addr) (m : Loc) (hp : Hp) : Prop where
  k : m (S "kind") = some (.int d.kind)
  x : m (S "x") = some (.int d.x)
  o : m (S "one") = some (.int d.one)
  w : m (S "two") = some (.int d.two)
  h : m (S "head") = some (.ref aH)
  r : m (S "tail") = some (.ref aR)
  hH : hp aH = some (.list (iL (t.take d.at_)))
  hR : hp aR = some (.list (iL (t.drop d.at_)))
  nH : aH ≠ L
  nR : aR ≠ L
  le : Hp.Le hb hp
  c1 : hp (L + 1) = some (.cell (some (.ref aT)))
  c2 : hp (L + 2) = some (.cell (some (.int made)))
  la : Lst B0 hb L aT (iL t)
noncomputable def DFin (hb : Hp) (L : Addr) (d : Deed) (t : List Int) (made : Int) (P : AF → Loc → Hp → Prop) : Prop :=
  ∀ hp' m' a b c, hb a = none → hb b = none → hb c = none → a ≠ L → b ≠ L → c ≠ L → hp' a = some (.list (iL (Zbr d t made).1)) → hp' b = some (.list (iL (Zbr d t made).2.1)) → hp' c = some (.list (iL (Zbr d t made).2.2)) → Hp.Le hb hp' → P (.ret (.tup [.ref a, .ref b, .ref c])) m' hp'
section
variable {A : Around} {m : Loc} {hp hb : Hp} {L aT aH aR : Addr} {d : Deed} {t : List Int} {made : Int} {P : AF → Loc → Hp → Prop}
noncomputable abbrev dEnv (L : Addr) : Env := callEnvC fdDeed L 251
noncomputable abbrev dS (i : Nat) : Stmt := (Zbm (topS PW 7)).getD i (.Pass default)
theorem Zr3 (G : Gnd (KW W0) B0) (hh : A.handled = none) (D : DS B0 hb L aT d t made aH aR m hp) (hl : t.length ≤ 1000) (h1 : d.one ≤ 10) (fin : DFin hb L d t made P) (hk : d.kind = 0) (rest : List Stmt) :
    EXs (model PW W0) B0 E0 A (dEnv L) (dS 4 :: rest) m hp P := by
  refine Zac ?_
  refine Za4 (Zad (Zaa D.k (Zaj (Zco (Zaf ?_)))))
  refine iteT (by rw [hk]; rfl) ?_
  refine Zac (Za6 (Zd4 (Zcq (Zcq (Zaa D.h (Zgy G hh h1 rfl D.o D.c2 (fun hp2 c hc hcL le2 hc2 => ?_) (by decide)))))))
  refine ⟨aH, c, _, _, rfl, rfl, le2 _ _ D.hH, D.nH, hc2, hcL, by (apply Zb6; repeat first | assumption | apply Zas | apply Zbg | apply Zau | apply Zav | apply Zbf | apply Zbh | apply Zbi | decide), fun e hp3 he heL le3 he3 => ?_⟩
  refine Zaa D.r ⟨e, aR, _, _, rfl, rfl, he3, heL, le3 _ _ (le2 _ _ D.hR), D.nR, by (apply Zb6; repeat first | assumption | apply Zas | apply Zbg | apply Zau | apply Zav | apply Zbf | apply Zbh | apply Zbi | decide), fun f hp4 hf hfL le4 hf4 => ?_⟩
  have lh := (le2.trans le3).trans le4
  refine ⟨f, _, rfl, hf4, hfL, fun hp5 b c hbL hcL hb0 hc0 le5 h6 h7 h8 => ?_⟩
  refine fin _ _ f b c (D.le.none ((le2.trans le3).none hf)) (D.le.none (lh.none hb0)) (D.le.none (lh.none hc0)) hfL hbL hcL ?_ ?_ ?_ (D.le.trans (lh.trans le5))
  · rw [h6]; simp [Zbr, hk]
  · rw [h7]; simp [Zbr, hk]
  · rw [h8]; simp [Zbr, hk]
end
section
variable {A : Around} {m : Loc} {hp hb : Hp} {L aT aH aR : Addr} {d : Deed} {t : List Int} {made : Int} {P : AF → Loc → Hp → Prop}
theorem no0 (D : DS B0 hb L aT d t made aH aR m hp) (hk : d.kind ≠ 0) (rest : List Stmt) (h : EXs (model PW W0) B0 E0 A (dEnv L) rest m hp P) : EXs (model PW W0) B0 E0 A (dEnv L) (dS 4 :: rest) m hp P := by
  refine Zac ?_
  exact Za4 (Zad (Zaa D.k (Zaj (Zco (Zaf (iteF (by simpa using hk) (Zag h)))))))
theorem no1 (D : DS B0 hb L aT d t made aH aR m hp) (hk : d.kind ≠ 1) (rest : List Stmt) (h : EXs (model PW W0) B0 E0 A (dEnv L) rest m hp P) : EXs (model PW W0) B0 E0 A (dEnv L) (dS 5 :: rest) m hp P := by
  refine Zac ?_
  exact Za4 (Zad (Zaa D.k (Zaj (Zco (Zaf (iteF (by simpa using hk) (Zag h)))))))
theorem no2 (D : DS B0 hb L aT d t made aH aR m hp) (hk : d.kind ≠ 2) (rest : List Stmt) (h : EXs (model PW W0) B0 E0 A (dEnv L) rest m hp P) : EXs (model PW W0) B0 E0 A (dEnv L) (dS 6 :: rest) m hp P := by
  refine Zac ?_
  exact Za4 (Zad (Zaa D.k (Zaj (Zco (Zaf (iteF (by simpa using hk) (Zag h)))))))
theorem no3 (D : DS B0 hb L aT d t made aH aR m hp) (hk : d.kind ≠ 3) (rest : List Stmt) (h : EXs (model PW W0) B0 E0 A (dEnv L) rest m hp P) : EXs (model PW W0) B0 E0 A (dEnv L) (dS 7 :: rest) m hp P := by
  refine Zac ?_
  exact Za4 (Zad (Zaa D.k (Zaj (Zco (Zaf (iteF (by simpa using hk) (Zag h)))))))
theorem no5 (D : DS B0 hb L aT d t made aH aR m hp) (hk : d.kind ≠ 5) (rest : List Stmt) (h : EXs (model PW W0) B0 E0 A (dEnv L) rest m hp P) : EXs (model PW W0) B0 E0 A (dEnv L) (dS 8 :: rest) m hp P := by
  refine Zac ?_
  exact Za4 (Zad (Zaa D.k (Zaj (Zco (Zaf (iteF (by simpa using hk) (Zag h)))))))
theorem Zr2 (D : DS B0 hb L aT d t made aH aR m hp) (hl : t.length ≤ 1000) (fin : DFin hb L d t made P) (hk : d.kind = 1) (rest : List Stmt) :
    EXs (model PW W0) B0 E0 A (dEnv L) (dS 5 :: rest) m hp P := by
  refine Zac ?_
  refine Za4 (Zad (Zaa D.k (Zaj (Zco (Zaf (iteT (by rw [hk]; rfl) ?_))))))
  refine Zac (Za6 (Zd4 (Zcq (Zaa D.h (Zb4 (Zaa D.r (Zaa D.o ⟨aR, _, _, _, rfl, .own D.hR D.nR, by (apply Zb6; repeat first | assumption | apply Zas | apply Zbg | apply Zau | apply Zav | apply Zbf | apply Zbh | apply Zbi | decide), rfl, rfl, fun c hp2 hc hcL le2 hc2 => ?_⟩)))))))
  rw [Zbd, Zcg] at hc2
  refine ⟨aH, c, _, _, rfl, rfl, le2 _ _ D.hH, D.nH, hc2, hcL, by (apply Zb6; repeat first | assumption | apply Zas | apply Zbg | apply Zau | apply Zav | apply Zbf | apply Zbh | apply Zbi | decide), fun f hp4 hf hfL le4 hf4 => ?_⟩
  refine ⟨f, _, rfl, hf4, hfL, fun hp5 b c hbL hcL hb0 hc0 le5 h6 h7 h8 => ?_⟩
  refine fin _ _ f b c (D.le.none (le2.none hf)) (D.le.none ((le2.trans le4).none hb0)) (D.le.none ((le2.trans le4).none hc0)) hfL hbL hcL ?_ ?_ ?_ (D.le.trans ((le2.trans le4).trans le5))
  · rw [h6]; simp [Zbr, hk]
  · rw [h7]; simp [Zbr, hk]
  · rw [h8]; simp [Zbr, hk]
theorem Zry (G : Gnd (KW W0) B0) (hh : A.handled = none) (D : DS B0 hb L aT d t made aH aR m hp) (hl : t.length ≤ 1000) (h2 : d.two ≤ 10) (fin : DFin hb L d t made P) (hk : d.kind = 5) (rest : List Stmt) :
    EXs (model PW W0) B0 E0 A (dEnv L) (dS 8 :: rest) m hp P := by
  refine Zac ?_
  refine Za4 (Zad (Zaa D.k (Zaj (Zco (Zaf (iteT (by rw [hk]; rfl) ?_))))))
  refine Zac (Za6 (Zd4 (Zcq (Zcq (Zaa D.h (Zgy G hh h2 rfl D.w D.c2 (fun hp2 c hc hcL le2 hc2 => ?_) (by decide)))))))
  refine ⟨aH, c, _, _, rfl, rfl, le2 _ _ D.hH, D.nH, hc2, hcL, by (apply Zb6; repeat first | assumption | apply Zas | apply Zbg | apply Zau | apply Zav | apply Zbf | apply Zbh | apply Zbi | decide), fun e hp3 he heL le3 he3 => ?_⟩
  refine Zb4 (Zaa D.r (Zaa D.o ⟨aR, _, _, _, rfl, .own (le3 _ _ (le2 _ _ D.hR)) D.nR, by (apply Zb6; repeat first | assumption | apply Zas | apply Zbg | apply Zau | apply Zav | apply Zbf | apply Zbh | apply Zbi | decide), rfl, rfl, fun g hp6 hg hgL le6 hg6 => ?_⟩))
  rw [Zbd, Zcg] at hg6
  refine ⟨e, g, _, _, rfl, rfl, le6 _ _ he3, heL, hg6, hgL, by (apply Zb6; repeat first | assumption | apply Zas | apply Zbg | apply Zau | apply Zav | apply Zbf | apply Zbh | apply Zbi | decide), fun f hp4 hf hfL le4 hf4 => ?_⟩
  refine ⟨f, _, rfl, hf4, hfL, fun hp5 b c hbL hcL hb0 hc0 le5 h6 h7 h8 => ?_⟩
  refine fin _ _ f b c (D.le.none (((le2.trans le3).trans le6).none hf)) (D.le.none ((((le2.trans le3).trans le6).trans le4).none hb0)) (D.le.none ((((le2.trans le3).trans le6).trans le4).none hc0)) hfL hbL hcL ?_ ?_ ?_ (D.le.trans ((((le2.trans le3).trans le6).trans le4).trans le5))
  · rw [h6]; simp [Zbr, hk]
  · rw [h7]; simp [Zbr, hk]
  · rw [h8]; simp [Zbr, hk]
theorem Zr0 (D : DS B0 hb L aT d t made aH aR m hp) (hl : t.length ≤ 1000) (fin : DFin hb L d t made P) (hk : d.kind = 3) (rest : List Stmt) :
    EXs (model PW W0) B0 E0 A (dEnv L) (dS 7 :: rest) m hp P := by
  refine Zac ?_
  refine Za4 (Zad (Zaa D.k (Zaj (Zco (Zaf (iteT (by rw [hk]; rfl) ?_))))))
  refine Zac (Zao (Zb4 (Zaa D.r (Zah (Zaa D.o (Zaa D.w (Zat ⟨aR, _, _, _, rfl, .own D.hR D.nR, by (apply Zb6; repeat first | assumption | apply Zas | apply Zbg | apply Zau | apply Zav | apply Zbf | apply Zbh | apply Zbi | decide), rfl, rfl, fun u hp2 hu huL le2 hu2 => ?_⟩)))))))
  rw [Zbd, show (d.one : Int) + (d.two : Int) = ((d.one + d.two : Nat) : Int) from by rfl, Zd9] at hu2
  have n1 := D.nH
  try dsimp only
  generalize hmx : upd m _ _ = mx
  have x1 : mx (S "turned") = some (.ref u) := by subst hmx; (first | assumption | rfl)
  have x2 : mx (S "head") = some (.ref aH) := by subst hmx; have := D.h; (first | assumption | rfl)
  have x3 : mx (S "tail") = some (.ref aR) := by subst hmx; have := D.r; (first | assumption | rfl)
  have x4 : mx (S "one") = some (.int d.one) := by subst hmx; have := D.o; (first | assumption | rfl)
  have x5 : mx (S "two") = some (.int d.two) := by subst hmx; have := D.w; (first | assumption | rfl)
  clear hmx
  refine Zac (Za6 (Zap (Zab (Zcq (Zcq (Zaa x2 (Zer (Zaa x1 (Zgx (Zaj ⟨1, rfl, u, _, rfl, rfl, .own hu2 huL, by (apply Zb6; repeat first | assumption | apply Zas | apply Zbg | apply Zau | apply Zav | apply Zbf | apply Zbh | apply Zbi | decide), fun c hc hcL => ?_⟩))))))))))
  have le3 : Hp.Le hp2 (hp2.set c (.list (iL ((t.drop d.at_).take (d.one + d.two))).reverse)) := (Hp.Le.refl _).set hc _
  have hc3 : (hp2.set c (.list (iL ((t.drop d.at_).take (d.one + d.two))).reverse)) c = some (.list (iL ((t.drop d.at_).take (d.one + d.two))).reverse) := Hp.ss ..
  generalize hp2.set c (.list (iL ((t.drop d.at_).take (d.one + d.two))).reverse) = hp3 at le3 hc3 ⊢
  refine ⟨aH, c, _, _, rfl, rfl, le3 _ _ (le2 _ _ D.hH), D.nH, hc3, hcL, by (apply Zb6; repeat first | assumption | apply Zas | apply Zbg | apply Zau | apply Zav | apply Zbf | apply Zbh | apply Zbi | decide), fun e hp4 he heL le4 he4 => ?_⟩
  refine Zb4 (Zaa x3 (Zah (Zaa x4 (Zaa x5 (Zat ⟨aR, _, _, _, rfl, .own (le4 _ _ (le3 _ _ (le2 _ _ D.hR))) D.nR, by (apply Zb6; repeat first | assumption | apply Zas | apply Zbg | apply Zau | apply Zav | apply Zbf | apply Zbh | apply Zbi | decide), rfl, rfl, fun g hp5 hg hgL le5 hg5 => ?_⟩)))))
  rw [Zbd, show (d.one : Int) + (d.two : Int) = ((d.one + d.two : Nat) : Int) from by rfl, Zcg] at hg5
  refine ⟨e, g, _, _, rfl, rfl, le5 _ _ he4, heL, hg5, hgL, by (apply Zb6; repeat first | assumption | apply Zas | apply Zbg | apply Zau | apply Zav | apply Zbf | apply Zbh | apply Zbi | decide), fun f hp6 hf hfL le6 hf6 => ?_⟩
  have l26 := ((le3.trans le4).trans le5).trans le6
  refine Zab (Zb4 (Zaa x1 (Zaj ⟨u, _, _, _, rfl, .own (l26 _ _ hu2) huL, by (apply Zb6; repeat first | assumption | apply Zas | apply Zbg | apply Zau | apply Zav | apply Zbf | apply Zbh | apply Zbi | decide), rfl, rfl, fun b hp7 hb7 hbL le7 hb7' => ?_⟩)))
  refine Zab (Zb4 (Zaa x1 (Zgx (Zaj ⟨1, rfl, u, _, _, _, rfl, .own (le7 _ _ (l26 _ _ hu2)) huL, by (apply Zb6; repeat first | assumption | apply Zas | apply Zbg | apply Zau | apply Zav | apply Zbf | apply Zbh | apply Zbi | decide), rfl, rfl, fun c hp8 hc8 hcL le8 hc8' => ?_⟩))))
  rw [Zbd, show (1 : Int) = ((1 : Nat) : Int) from rfl, Zcg] at hb7'
  rw [Zbd, Zj1] at hc8'
  refine Zae ⟨sz rfl, ?_⟩
  refine fin _ _ f b c (D.le.none ((((le2.trans le3).trans le4).trans le5).none hf)) (D.le.none ((le2.trans l26).none hb7)) (D.le.none (((le2.trans l26).trans le7).none hc8)) hfL hbL hcL ?_ ?_ ?_ (D.le.trans (((le2.trans l26).trans le7).trans le8))
  · rw [le8 _ _ (le7 _ _ hf6)]; simp [Zbr, hk]
  · rw [le8 _ _ hb7']; simp [Zbr, hk]
  · rw [hc8']; simp [Zbr, hk]
end
section
variable {A : Around} {m : Loc} {hp hb : Hp} {L aT aH aR : Addr} {d : Deed} {t : List Int} {made : Int} {P : AF → Loc → Hp → Prop}
theorem Zr1 (G : Gnd (KW W0) B0) (D : DS B0 hb L aT d t made aH aR m hp) (hl : t.length ≤ 1000) (fin : DFin hb L d t made P) (hh : A.handled = none) (hk : d.kind = 2) (rest : List Stmt) :
    EXs (model PW W0) B0 E0 A (dEnv L) (dS 6 :: rest) m hp P := by
  refine Zac ?_
  refine Za4 (Zad (Zaa D.k (Zaj (Zco (Zaf (iteT (by rw [hk]; rfl) ?_))))))
  refine Zac (Zar hh (names := [S "p", S "q"]) (Zap (Zab (Zb4 (Zaa D.r (Zaa D.o ⟨aR, _, _, _, rfl, .own D.hR D.nR, by (apply Zb6; repeat first | assumption | apply Zas | apply Zbg | apply Zau | apply Zav | apply Zbf | apply Zbh | apply Zbi | decide), rfl, rfl, fun p hp2 hp0 hpL le2 hp2' => ?_⟩))))))
  refine Zab (Zb4 (Zaa D.r (Zaa D.o (Zah (Zaa D.o (Zaa D.w (Zat ⟨aR, _, _, _, rfl, .own (le2 _ _ D.hR) D.nR, by (apply Zb6; repeat first | assumption | apply Zas | apply Zbg | apply Zau | apply Zav | apply Zbf | apply Zbh | apply Zbi | decide), rfl, rfl, fun q hp3 hq0 hqL le3 hq3' => ?_⟩)))))))
  rw [Zbd, Zd9] at hp2'
  rw [Zbd, Zfg] at hq3'
  refine Zae ⟨sz rfl, _, rfl, rfl, Zal (Zal (Zaq ?_))⟩
  have hp3' := le3 _ _ hp2'
  have l3 : Hp.Le hp hp3 := le2.trans le3
  generalize hP : (t.drop d.at_).take d.one = pl at *
  generalize hQ : ((t.drop d.at_).drop d.one).take d.two = ql at *
  have hpl : pl.length ≤ 1000 := by rw [← hP]; exact Zau (Zav hl)
  have hql : ql.length ≤ 1000 := by rw [← hQ]; exact Zau (Zav (Zav hl))
  try dsimp only
  generalize hmx : upd (upd m _ _) _ _ = mx
  have x1 : mx (S "p") = some (.ref p) := by subst hmx; (first | assumption | rfl)
  have x6 : mx (S "q") = some (.ref q) := by subst hmx; (first | assumption | rfl)
  have x2 : mx (S "head") = some (.ref aH) := by subst hmx; have := D.h; (first | assumption | rfl)
  have x3 : mx (S "tail") = some (.ref aR) := by subst hmx; have := D.r; (first | assumption | rfl)
  have x4 : mx (S "one") = some (.int d.one) := by subst hmx; have := D.o; (first | assumption | rfl)
  have x5 : mx (S "two") = some (.int d.two) := by subst hmx; have := D.w; (first | assumption | rfl)
  clear hmx
  have lenp : ∀ {Q : AV → Hp → Prop}, Q (.int pl.length) hp3 → CL (model PW W0) B0 E0 A (dEnv L) (.builtin "len") mx [.ref p] hp3 Q := fun h => Zcb (.own hp3' hpL) (by simp; exact sz' (by (exact Nat.le_trans (by assumption) (by decide)))) (by rw [List.length_map]; exact h)
  have lenq : ∀ {Q : AV → Hp → Prop}, Q (.int ql.length) hp3 → CL (model PW W0) B0 E0 A (dEnv L) (.builtin "len") mx [.ref q] hp3 Q := fun h => Zcb (.own hq3' hqL) (by simp; exact sz' (by (exact Nat.le_trans (by assumption) (by decide)))) (by rw [List.length_map]; exact h)
  obtain ⟨th, hth⟩ : ∃ th, th = if pl.length ≥ ql.length then q else p := ⟨_, rfl⟩
  obtain ⟨bk, hbk⟩ : ∃ bk, bk = if ql.length ≥ pl.length then p else q := ⟨_, rfl⟩
  refine Zac (Zao (Zca (Zad (Za1 (Zay G (Zbz W0) Zbj (by decide) (fun _ => Zct) ⟨rfl, Zab (Zaa x1 (Zae (lenp (Za1 (Zay G (Zbz W0) Zbj (by decide) (fun _ => Zct) ⟨rfl, Zab (Zaa x6 (Zae (lenq (Znc (Zaf ?_)))))⟩)))))⟩)))))
  have st1 : ∀ {c : Bool} {R : AV → Hp → Prop} (hc : c = decide ((pl.length : Int) ≥ ql.length)) (h : R (.ref th) hp3) {e1 e2 : Expr} (h1 : R (.ref q) hp3 → EV (model PW W0) B0 E0 A (dEnv L) e1 mx hp3 R) (h2 : R (.ref p) hp3 → EV (model PW W0) B0 E0 A (dEnv L) e2 mx hp3 R), if c = true then EV (model PW W0) B0 E0 A (dEnv L) e1 mx hp3 R else EV (model PW W0) B0 E0 A (dEnv L) e2 mx hp3 R := fun {c R} hc h {e1 e2} h1 h2 => by
    subst hc
    by_cases hx : pl.length ≥ ql.length
    · refine iteT (by rw [decide_eq_true_iff]; (exact Int.ofNat_le.mpr (by assumption))) (h1 ?_)
      rw [if_pos hx] at hth; rw [← hth]; exact h
    · refine iteF (by rw [decide_eq_false_iff_not]; lia) (h2 ?_)
      rw [if_neg hx] at hth; rw [← hth]; exact h
  refine st1 rfl ?_ (fun h => Zaa x6 h) (fun h => Zaa x1 h)
  try dsimp only
  generalize hmx2 : upd mx _ _ = my
  have y1 : my (S "p") = some (.ref p) := by subst hmx2; (first | assumption | rfl)
  have y6 : my (S "q") = some (.ref q) := by subst hmx2; (first | assumption | rfl)
  have y2 : my (S "head") = some (.ref aH) := by subst hmx2; (first | assumption | rfl)
  have y3 : my (S "tail") = some (.ref aR) := by subst hmx2; (first | assumption | rfl)
  have y4 : my (S "one") = some (.int d.one) := by subst hmx2; (first | assumption | rfl)
  have y5 : my (S "two") = some (.int d.two) := by subst hmx2; (first | assumption | rfl)
  have y7 : my (S "there") = some (.ref th) := by subst hmx2; (first | assumption | rfl)
  clear hmx2 lenp lenq st1
  have lenp : ∀ {Q : AV → Hp → Prop}, Q (.int pl.length) hp3 → CL (model PW W0) B0 E0 A (dEnv L) (.builtin "len") my [.ref p] hp3 Q := fun h => Zcb (.own hp3' hpL) (by simp; exact sz' (by (exact Nat.le_trans (by assumption) (by decide)))) (by rw [List.length_map]; exact h)
  have lenq : ∀ {Q : AV → Hp → Prop}, Q (.int ql.length) hp3 → CL (model PW W0) B0 E0 A (dEnv L) (.builtin "len") my [.ref q] hp3 Q := fun h => Zcb (.own hq3' hqL) (by simp; exact sz' (by (exact Nat.le_trans (by assumption) (by decide)))) (by rw [List.length_map]; exact h)
  refine Zac (Zao (Zca (Zad (Za1 (Zay G (Zbz W0) Zbj (by decide) (fun _ => Zct) ⟨rfl, Zab (Zaa y6 (Zae (lenq (Za1 (Zay G (Zbz W0) Zbj (by decide) (fun _ => Zct) ⟨rfl, Zab (Zaa y1 (Zae (lenp (Znc (Zaf ?_)))))⟩)))))⟩)))))
  have st2 : ∀ {c : Bool} {R : AV → Hp → Prop} (hc : c = decide ((ql.length : Int) ≥ pl.length)) (h : R (.ref bk) hp3) {e1 e2 : Expr} (h1 : R (.ref p) hp3 → EV (model PW W0) B0 E0 A (dEnv L) e1 my hp3 R) (h2 : R (.ref q) hp3 → EV (model PW W0) B0 E0 A (dEnv L) e2 my hp3 R), if c = true then EV (model PW W0) B0 E0 A (dEnv L) e1 my hp3 R else EV (model PW W0) B0 E0 A (dEnv L) e2 my hp3 R := fun {c R} hc h {e1 e2} h1 h2 => by
    subst hc
    by_cases hx : ql.length ≥ pl.length
    · refine iteT (by rw [decide_eq_true_iff]; (exact Int.ofNat_le.mpr (by assumption))) (h1 ?_)
      rw [if_pos hx] at hbk; rw [← hbk]; exact h
    · refine iteF (by rw [decide_eq_false_iff_not]; lia) (h2 ?_)
      rw [if_neg hx] at hbk; rw [← hbk]; exact h
  refine st2 rfl ?_ (fun h => Zaa y1 h) (fun h => Zaa y6 h)
  try dsimp only
  generalize hmx2 : upd my _ _ = mz
  have z1 : mz (S "p") = some (.ref p) := by subst hmx2; (first | assumption | rfl)
  have z6 : mz (S "q") = some (.ref q) := by subst hmx2; (first | assumption | rfl)
  have z2 : mz (S "head") = some (.ref aH) := by subst hmx2; (first | assumption | rfl)
  have z3 : mz (S "tail") = some (.ref aR) := by subst hmx2; (first | assumption | rfl)
  have z4 : mz (S "one") = some (.int d.one) := by subst hmx2; (first | assumption | rfl)
  have z5 : mz (S "two") = some (.int d.two) := by subst hmx2; (first | assumption | rfl)
  have z7 : mz (S "there") = some (.ref th) := by subst hmx2; (first | assumption | rfl)
  have z8 : mz (S "back") = some (.ref bk) := by subst hmx2; (first | assumption | rfl)
  clear hmx2 lenp lenq st2
  have vth : hp3 th = some (.list (iL (if pl.length ≥ ql.length then ql else pl))) := by rw [hth]; split <;> assumption
  have vbk : hp3 bk = some (.list (iL (if ql.length ≥ pl.length then pl else ql))) := by rw [hbk]; split <;> assumption
  have zth : hp th = none := by rw [hth]; split
                                · exact le2.none hq0
                                · exact hp0
  have zbk : hp bk = none := by rw [hbk]; split
                                · exact hp0
                                · exact le2.none hq0
  have nth : th ≠ L := by rw [hth]; split <;> assumption
  have nbk : bk ≠ L := by rw [hbk]; split <;> assumption
  have nH := D.nH
  have nR := D.nR
  refine Zac (Za6 (Zap (Zab (Zcq (Zcq (Zcq (Zaa z2 (Zaa z6 ⟨aH, q, _, _, rfl, rfl, l3 _ _ D.hH, D.nH, hq3', hqL, by (apply Zb6; repeat first | assumption | apply Zas | apply Zbg | apply Zau | apply Zav | apply Zbf | apply Zbh | apply Zbi | decide), fun e hp4 he heL le4 he4 => ?_⟩))))))))
  refine Zaa z1 ⟨e, p, _, _, rfl, rfl, he4, heL, le4 _ _ hp3', hpL, by (apply Zb6; repeat first | assumption | apply Zas | apply Zbg | apply Zau | apply Zav | apply Zbf | apply Zbh | apply Zbi | decide), fun f hp5 hf hfL le5 hf5 => ?_⟩
  refine Zb4 (Zaa z3 (Zah (Zaa z4 (Zaa z5 (Zat ⟨aR, _, _, _, rfl, .own (le5 _ _ (le4 _ _ (l3 _ _ D.hR))) D.nR, by (apply Zb6; repeat first | assumption | apply Zas | apply Zbg | apply Zau | apply Zav | apply Zbf | apply Zbh | apply Zbi | decide), rfl, rfl, fun g hp6 hg hgL le6 hg6 => ?_⟩)))))
  rw [Zbd, show (d.one : Int) + (d.two : Int) = ((d.one + d.two : Nat) : Int) from by rfl, Zcg] at hg6
  refine ⟨f, g, _, _, rfl, rfl, le6 _ _ hf5, hfL, hg6, hgL, by (apply Zb6; repeat first | assumption | apply Zas | apply Zbg | apply Zau | apply Zav | apply Zbf | apply Zbh | apply Zbi | decide), fun r hp7 hr hrL le7 hr7 => ?_⟩
  refine Zab (Zaa z7 (Zab (Zaa z8 (Zae ⟨sz rfl, ?_⟩))))
  have l7 := ((le4.trans le5).trans le6).trans le7
  have hres : Zbr d t made = (t.take d.at_ ++ ql ++ pl ++ (t.drop d.at_).drop (d.one + d.two), if pl.length ≥ ql.length then ql else pl, if ql.length ≥ pl.length then pl else ql) := by
    unfold Zbr; rw [hk]; dsimp only
    rw [if_neg (by decide), if_neg (by decide), if_pos rfl, hP, hQ]
  refine fin _ _ r th bk (D.le.none ((((l3.trans le4).trans le5).trans le6).none hr)) (D.le.none zth) (D.le.none zbk) hrL nth nbk ?_ ?_ ?_ (D.le.trans (l3.trans l7))
  · rw [hr7, hres]; simp
  · rw [l7 _ _ vth, hres]
  · rw [l7 _ _ vbk, hres]
theorem Zrz (G : Gnd (KW W0) B0) (hh : A.handled = none) (D : DS B0 hb L aT d t made aH aR m hp) (hu : A.units + 4 < cLine) (hl : t.length ≤ 1000) (h0 : 0 ≤ made) (h1 : made ≤ 1000) (fin : DFin hb L d t made P) (hk : d.kind ≠ 0 ∧ d.kind ≠ 1 ∧ d.kind ≠ 2 ∧ d.kind ≠ 3 ∧ d.kind ≠ 5) (rest : List Stmt) :
    EXs (model PW W0) B0 E0 A (dEnv L) (dS 9 :: dS 10 :: dS 11 :: rest) m hp P := by
  refine Zac ?_
  refine Zen (p := fun i => !t.contains (i : Int)) (e := fun i => .int (i : Int)) (cl := [(S "text", L + 1)]) hh rfl (by decide) (by decide) (fun _ => rfl) ?_
  refine Zc0 (Zay G (Zcw W0) Zci (by decide) (fun _ => Zdl) ⟨rfl, Zab (Zax (c := L + 2) rfl D.c2 (show L + 2 ≠ L by simp) (Zae (Zeu fun r ob hr hrL ro => ?_)))⟩)
  refine ⟨r, ob, 0, made, rfl, Hp.ss .., hrL, ro, by decide, by decide, by lia, by lia, by lia, fun C m₂ hp₃ i hi hC hCL hle3 hm₂ => ?_, fun acc hacc haccL => ?_⟩
  · have hle : Hp.Le hp (hp.set r (.obj ob)) := (Hp.Le.refl _).set hr _
    have hcL : L + 1 ≠ L := by simp
    have e1 : hp₃ (L + 1) = some (.cell (some (.ref aT))) := hle3 _ _ (by rw [show (callEnvC fdDeed L 251).locals = L from rfl, Hp.sn _ _ hcL]; exact hle _ _ D.c1)
    have n1 : L + 1 ≠ C := Hp.ne_of (hle _ _ D.c1) hC
    have hm₃ : m₂ (S "line") = some (.int (i : Int)) := by rw [hm₂]; simp
    have lt : Lst B0 hp₃ C aT (iL t) := ((D.la.le (D.le.trans hle)).call hC).le hle3
    refine Zif (Zad (Zaa hm₃ (Zax (c := L + 1) rfl e1 n1 (Zgn lt (by show A.units + 4 < _; exact hu) (Zaf ⟨rfl, .refl _, fun _ => ?_⟩)))))
    exact Zaa hm₃ ⟨rfl, .refl _⟩
  · have l1 : Hp.Le hp ((hp.set r (.obj ob)).set acc (.list (((List.range (made - 0).toNat).filter fun (i : Nat) => !t.contains (i : Int)).map fun (i : Nat) => AV.int (i : Int)))) := ((Hp.Le.refl hp).set hr (.obj ob)).set (((Hp.Le.refl hp).set hr _).none hacc) _
    have hac : ((hp.set r (.obj ob)).set acc (.list (((List.range (made - 0).toNat).filter fun (i : Nat) => !t.contains (i : Int)).map fun (i : Nat) => AV.int (i : Int)))) acc = some (.list (iL (outF t made))) := by
      rw [Hp.ss]
      unfold outF
      rw [List.filter_map, Int.sub_zero]
      unfold iL
      rw [List.map_map]; rfl
    generalize (hp.set r (.obj ob)).set acc (.list (((List.range (made - 0).toNat).filter fun (i : Nat) => !t.contains (i : Int)).map fun (i : Nat) => AV.int (i : Int))) = hp2 at l1 hac ⊢
    have hol : (outF t made).length ≤ 1000 := by
      unfold outF
      exact Nat.le_trans (List.length_filter_le _ _) (by simp; omega)
    have hres : Zbr d t made = (t.take d.at_ ++ ((outF t made).drop (d.x / 16 % (((outF t made).length : Int) + 1)).toNat).take d.one ++ t.drop d.at_, [], []) := by
      unfold Zbr; dsimp only
      rw [if_neg hk.1, if_neg hk.2.1, if_neg hk.2.2.1, if_neg hk.2.2.2.1, if_neg hk.2.2.2.2]
    generalize outF t made = ot at hol hac hres
    have nH := D.nH
    have nR := D.nR
    try dsimp only
    generalize hmx2 : upd m _ _ = mx
    have x2 : mx (S "head") = some (.ref aH) := by subst hmx2; have := D.h; (first | assumption | rfl)
    have x3 : mx (S "tail") = some (.ref aR) := by subst hmx2; have := D.r; (first | assumption | rfl)
    have x4 : mx (S "one") = some (.int d.one) := by subst hmx2; have := D.o; (first | assumption | rfl)
    have x5 : mx (S "x") = some (.int d.x) := by subst hmx2; have := D.x; (first | assumption | rfl)
    have x6 : mx (S "out") = some (.ref acc) := by subst hmx2; (first | assumption | rfl)
    clear hmx2
    refine Zac ?_
    refine Zao (Zah (Zah (Zaa x5 (Zaj (Zb3 (b := 16) (by decide) (by decide) (Zah (Za1 (Zay G (Zbz W0) Zbj (by decide) (fun _ => Zct) ⟨rfl, Zab (Zaa x6 (Zae (Zcb (.own hac haccL) (by rw [List.length_map]; exact sz' (by (exact Nat.le_trans (by assumption) (by decide)))) ?_)))⟩))))))))
    rw [List.length_map]
    refine Zaj (Zat (Zgo (by lia) ?_))
    rw [Zd3 _ (by decide), Zdf _ (by (exact Int.natCast_nonneg _))]
    obtain ⟨fi, hfi⟩ : ∃ fi : Nat, (fi : Int) = d.x / 16 % ((ot.length : Int) + 1) := ⟨(d.x / 16 % ((ot.length : Int) + 1)).toNat, Int.toNat_of_nonneg (Int.emod_nonneg _ (by lia))⟩
    rw [← hfi] at hres ⊢
    rw [Int.toNat_natCast] at hres
    try dsimp only
    generalize hmx2 : upd mx _ _ = my
    have y2 : my (S "head") = some (.ref aH) := by subst hmx2; (first | assumption | rfl)
    have y3 : my (S "tail") = some (.ref aR) := by subst hmx2; (first | assumption | rfl)
    have y4 : my (S "one") = some (.int d.one) := by subst hmx2; (first | assumption | rfl)
    have y5 : my (S "first") = some (.int fi) := by subst hmx2; (first | assumption | rfl)
    have y6 : my (S "out") = some (.ref acc) := by subst hmx2; (first | assumption | rfl)
    clear hmx2
    refine Zac ?_
    refine Za6 (Zd4 (Zcq (Zcq (Zaa y2 (Zb4 (Zaa y6 (Zaa y5 (Zah (Zaa y5 (Zaa y4 (Zat ⟨acc, _, _, _, rfl, .own hac haccL, by rw [List.length_map]; (exact Nat.le_trans (by assumption) (by decide)), rfl, rfl, fun g hp3 hg hgL le3 hg3 => ?_⟩)))))))))))
    rw [Zbd, Zfg] at hg3
    refine ⟨aH, g, _, _, rfl, rfl, le3 _ _ (l1 _ _ D.hH), D.nH, hg3, hgL, by (apply Zb6; repeat first | assumption | apply Zas | apply Zbg | apply Zau | apply Zav | apply Zbf | apply Zbh | apply Zbi | decide), fun e hp4 he heL le4 he4 => ?_⟩
    refine Zaa y3 ⟨e, aR, _, _, rfl, rfl, he4, heL, le4 _ _ (le3 _ _ (l1 _ _ D.hR)), D.nR, by (apply Zb6; repeat first | assumption | apply Zas | apply Zbg | apply Zau | apply Zav | apply Zbf | apply Zbh | apply Zbi | decide), fun f hp5 hf hfL le5 hf5 => ?_⟩
    refine ⟨f, _, rfl, hf5, hfL, fun hp6 b c hbL hcL hb0 hc0 le6 h6 h7 h8 => ?_⟩
    refine fin _ _ f b c (D.le.none (((l1.trans le3).trans le4).none hf)) (D.le.none ((((l1.trans le3).trans le4).trans le5).none hb0)) (D.le.none ((((l1.trans le3).trans le4).trans le5).none hc0)) hfL hbL hcL ?_ ?_ ?_ (D.le.trans ((((l1.trans le3).trans le4).trans le5).trans le6))
    · rw [h6, hres]; simp
    · rw [h7, hres]; rfl
    · rw [h8, hres]; rfl
end
section
variable {A : Around} {env : Env} {m : Loc} {hp hb : Hp} {L aT aH aR : Addr} {d : Deed} {t : List Int} {made : Int} {P : AF → Loc → Hp → Prop}
theorem Zo0 (G : Gnd (KW W0) B0) (hh : A.handled = none) (hu : A.units + 4 < cLine) (D : DS B0 hb L aT d t made aH aR m hp) (hl : t.length ≤ 1000) (h0 : 0 ≤ made) (h1 : made ≤ 1000) (o : d.one ≤ 10) (o2 : d.two ≤ 10) (fin : DFin hb L d t made P) :
    EXs (model PW W0) B0 E0 A (dEnv L) [dS 4, dS 5, dS 6, dS 7, dS 8, dS 9, dS 10, dS 11] m hp P := by
  by_cases k0 : d.kind = 0
  · exact Zr3 G hh D hl o fin k0 _
  refine no0 D k0 _ ?_
  by_cases k1 : d.kind = 1
  · exact Zr2 D hl fin k1 _
  refine no1 D k1 _ ?_
  by_cases k2 : d.kind = 2
  · exact Zr1 G D hl fin hh k2 _
  refine no2 D k2 _ ?_
  by_cases k3 : d.kind = 3
  · exact Zr0 D hl fin k3 _
  refine no3 D k3 _ ?_
  by_cases k5 : d.kind = 5
  · exact Zry G hh D hl o2 fin k5 _
  refine no5 D k5 _ ?_
  exact Zrz G hh D hu hl h0 h1 fin ⟨k0, k1, k2, k3, k5⟩ _
theorem Zpk {x : Int} {Q : AV → Hp → Prop} (G : Gnd (KW W0) B0) (hh : A.handled = none) (hu : A.units + 10 < cLine) (hroom : A.depth < recursionLimit) (la : Lst B0 hp env.locals aT (iL t)) (hl : t.length ≤ 1000) (h0 : 0 ≤ made) (h1 : made ≤ 1000)
    (h : ∀ hp' a b c, hp a = none → hp b = none → hp c = none → a ≠ env.locals → b ≠ env.locals → c ≠ env.locals → hp' a = some (.list (iL (Zdi x t made).1)) → hp' b = some (.list (iL (Zdi x t made).2.1)) → hp' c = some (.list (iL (Zdi x t made).2.2)) → (∀ z o, z ≠ env.locals → hp z = some o → hp' z = some o) → hp' env.locals = none → Q (.tup [.ref a, .ref b, .ref c]) hp') :
    CL (model PW W0) B0 E0 A env (.ref 251) m [.int x, .ref aT, .int made] hp Q := by
  refine CD.cl (Zio (bs := [(S "x", .int x), (S "text", .ref aT), (S "made", .int made)]) (body := Zbm (topS PW 7)) G (Zqb W0) (by kernel_rfl) rfl hroom rfl (fun s vs hv => ?_) (fun L x hx => ?_) (fun L hL hLe hcs => ?_) (fun L n c hm => ?_))
  · obtain ⟨v, u, z, rfl, h1, h2, h3⟩ := Zgm hv
    exact ⟨[(S "x", v), (S "text", u), (S "made", z)], rfl, rfl, .mk h1 (.mk h2 (.mk h3 .nil))⟩
  · simp only [List.mem_cons, List.not_mem_nil, or_false] at hx
    rcases hx with rfl | rfl | rfl
    · exact .inl rfl
    · exact .inr ⟨rfl, rfl⟩
    · exact .inr ⟨rfl, rfl⟩
  · have hcl : cellsFrom (L + 1) fdDeed.scope.names [] = [(S "made", L + 2), (S "text", L + 1)] := rfl
    rw [hcl] at hcs ⊢
    have f1 := hcs (S "text") (L + 1) (by simp)
    have f2 := hcs (S "made") (L + 2) (by simp)
    have g0 : (bindLA (callEnvC fdDeed L 251).kindOf [(S "x", AV.int x), (S "text", .ref aT), (S "made", .int made)] fun _ => none) (S "x") = some (.int x) := rfl
    generalize bindLA (callEnvC fdDeed L 251).kindOf [(S "x", AV.int x), (S "text", .ref aT), (S "made", .int made)] (fun _ => none) = m0 at *
    generalize hhp1 : Za7 (hp.set env.locals (.ns m)) _ _ = hp1
    have c1 : hp1 (L + 1) = some (.cell (some (.ref aT))) := by rw [← hhp1]; simp [Za7, List.find?]; rfl
    have c2 : hp1 (L + 2) = some (.cell (some (.int made))) := by rw [← hhp1]; simp [Za7, List.find?]; rfl
    have hle : Hp.Le (hp.set env.locals (.ns m)) hp1 := fun z o e => by
      have k : ∀ c, hp c = none → c ≠ env.locals → c ≠ z := fun c a b e' => by subst e'; rw [Hp.sn _ _ b, a] at e; cases e
      rw [← hhp1]
      simp only [Za7, List.find?, decide_eq_false (k _ f2.1 f2.2.1), decide_eq_false (k _ f1.1 f1.2.1)]
      exact e
    clear hhp1
    have hl1 : Lst B0 hp1 L aT (iL t) := (la.call hL).le hle
    have fin : DFin hp1 L (Zgd x t.length) t made (RET L env m Q) := fun hp' m' a b c ha hb0 hc0 haL hbL hcL e1 e2 e3 le => by
      have ha0 := hle.none ha
      have hLn : (hp.set env.locals (.ns m)) L = none := Hp.snt hLe hL
      have haE : a ≠ env.locals := fun e => by rw [e, Hp.ss] at ha0; cases ha0
      have hE9 : hp' env.locals = some (.ns m) := le _ _ (hle _ _ (Hp.ss ..))
      have ne : ∀ {z : Addr} {xs : List AV}, hp' z = some (.list xs) → z ≠ env.locals := fun {z xs} e h => by rw [h, hE9] at e; cases e
      have hb9 := hle.none hb0
      have hc9 := hle.none hc0
      rw [Hp.sn _ _ (ne e2)] at hb9
      rw [Hp.sn _ _ (ne e3)] at hc9
      refine Zcr hE9 (h _ a b c (Hp.snr haE ha0) hb9 hc9 haE (ne e2) (ne e3) ?_ ?_ ?_ (fun z o hz e => ?_) (by simp [Hp.cut]))
      · rw [Hp.cut_eq haE haL]; exact e1
      · rw [Hp.cut_eq (ne e2) hbL]; exact e2
      · rw [Hp.cut_eq (ne e3) hcL]; exact e3
      · have e' : (hp.set env.locals (.ns m)) z = some o := Hp.snt hz e
        rw [Hp.cut_eq hz (Hp.ne_of e' hLn)]; exact le _ _ (hle _ _ e')
    clear h hle hcs
    show EXs _ _ _ _ _ (Zbm (topS PW 7)) _ _ _
    have split : Zbm (topS PW 7) = dS 0 :: dS 1 :: dS 2 :: dS 3 :: [dS 4, dS 5, dS 6, dS 7, dS 8, dS 9, dS 10, dS 11] := rfl
    rw [split]
    have dd : Zgd x t.length = ⟨x % 6, (x / 6 % ((t.length : Int) + 1)).toNat, (1 + x / 6 / ((t.length : Int) + 1) % 4).toNat, (1 + x / 6 / ((t.length : Int) + 1) / 4 % 4).toNat, x / 6 / ((t.length : Int) + 1)⟩ := rfl
    refine Zac ?_
    refine Zar hh (names := [S "kind", S "x"]) (Zap (Zab (Zah (Zaa g0 (Zaj (Zgo (b := 6) (by decide) (Zab (Zah (Zaa g0 (Zaj (Zb3 (b := 6) (by decide) (by decide) (Zae ⟨sz rfl, _, rfl, rfl, Zal (Zal (Zaq ?_))⟩))))))))))))
    rw [Zdf _ (by decide), Zd3 _ (by decide)]
    try dsimp only
    generalize hmx : upd (upd m0 _ _) _ _ = m1
    have p1 : m1 (S "kind") = some (.int (x % 6)) := by subst hmx; (first | assumption | rfl)
    have p2 : m1 (S "x") = some (.int (x / 6)) := by subst hmx; (first | assumption | rfl)
    clear hmx g0
    refine Zac ?_
    have len : ∀ {m : Loc} {Q : AV → Hp → Prop}, Q (.int t.length) hp1 → CL (model PW W0) B0 (fun _ _ => False) (A.deeper (callEnvC fdDeed L 251)) (callEnvC fdDeed L 251) (.builtin "len") m [.ref aT] hp1 Q := fun h => Zcb hl1 (by rw [List.length_map]; exact sz' (by (exact Nat.le_trans (by assumption) (by decide)))) (by rw [List.length_map]; exact h)
    refine Zar hh (names := [S "at", S "x"]) (Zap (Zab (Zah (Zaa p2 (Zah (Za1 (Zay G (Zbz W0) Zbj (by decide) (fun _ => Zct) ⟨rfl, Zab (Zax (c := L + 1) rfl c1 f1.2.2 (Zae (len (Zaj (Zat (Zgo (by lia) ?_))))))⟩)))))))
    refine Zab (Zah (Zaa p2 (Zah (Za1 (Zay G (Zbz W0) Zbj (by decide) (fun _ => Zct) ⟨rfl, Zab (Zax (c := L + 1) rfl c1 f1.2.2 (Zae (len (Zaj (Zat (Zb3 (by lia) (by lia) (Zae ⟨sz rfl, _, rfl, rfl, Zal (Zal (Zaq ?_))⟩)))))))⟩)))))
    rw [Zdf _ (by (exact Int.natCast_nonneg _)), Zd3 _ (by (exact Int.natCast_nonneg _))]
    obtain ⟨at_, hat⟩ : ∃ n : Nat, (n : Int) = x / 6 % ((t.length : Int) + 1) := ⟨_, Int.toNat_of_nonneg (Int.emod_nonneg _ (by lia))⟩
    rw [← hat] at dd ⊢
    generalize x / 6 / ((t.length : Int) + 1) = x2 at dd ⊢
    try dsimp only
    generalize hmx : upd (upd m1 _ _) _ _ = m2
    have q1 : m2 (S "kind") = some (.int (x % 6)) := by subst hmx; (first | assumption | rfl)
    have q2 : m2 (S "x") = some (.int x2) := by subst hmx; (first | assumption | rfl)
    have q3 : m2 (S "at") = some (.int at_) := by subst hmx; (first | assumption | rfl)
    clear hmx p1 p2
    refine Zac ?_
    refine Zar hh (names := [S "one", S "two"]) (Zap (Zab (Zah (Zaj (Zah (Zaa q2 (Zaj (Zgo (b := 4) (by decide) (Zat (Zab (Zah (Zaj (Zah (Zah (Zaa q2 (Zaj (Zb3 (b := 4) (by decide) (by decide) (Zaj (Zgo (b := 4) (by decide) (Zat (Zae ⟨sz rfl, _, rfl, rfl, Zal (Zal (Zaq ?_))⟩)))))))))))))))))))))
    rw [Zdf _ (by decide), Zd3 _ (by decide), Zdf _ (by decide)]
    obtain ⟨one, h1'⟩ : ∃ n : Nat, (n : Int) = 1 + x2 % 4 := ⟨(1 + x2 % 4).toNat, by lia⟩
    obtain ⟨two, h2'⟩ : ∃ n : Nat, (n : Int) = 1 + x2 / 4 % 4 := ⟨(1 + x2 / 4 % 4).toNat, by lia⟩
    have o1 : one ≤ 10 := by lia
    have o2 : two ≤ 10 := by lia
    rw [← h1', ← h2'] at dd ⊢
    rw [Int.toNat_natCast, Int.toNat_natCast, Int.toNat_natCast] at dd
    try dsimp only
    generalize hmx : upd (upd m2 _ _) _ _ = m3
    have r1 : m3 (S "kind") = some (.int (x % 6)) := by subst hmx; (first | assumption | rfl)
    have r2 : m3 (S "x") = some (.int x2) := by subst hmx; (first | assumption | rfl)
    have r3 : m3 (S "at") = some (.int at_) := by subst hmx; (first | assumption | rfl)
    have r4 : m3 (S "one") = some (.int one) := by subst hmx; (first | assumption | rfl)
    have r5 : m3 (S "two") = some (.int two) := by subst hmx; (first | assumption | rfl)
    clear hmx q1 q2 q3
    refine Zac ?_
    refine Zar hh (names := [S "head", S "tail"]) (Zap (Zab (Zb4 (Zax (c := L + 1) rfl c1 f1.2.2 (Zaa r3 ⟨aT, _, _, _, rfl, hl1, by rw [List.length_map]; (exact Nat.le_trans (by assumption) (by decide)), rfl, rfl, fun aH hp2 h2 h2L le2 e2 => ?_⟩)))))
    rw [Zbd, Zd9] at e2
    refine Zab (Zb4 (Zax (c := L + 1) rfl (le2 _ _ c1) f1.2.2 (Zaa r3 ⟨aT, _, _, _, rfl, hl1.le le2, by rw [List.length_map]; (exact Nat.le_trans (by assumption) (by decide)), rfl, rfl, fun aR hp3 h3 h3L le3 e3 => ?_⟩)))
    rw [Zbd, Zcg] at e3
    refine Zae ⟨sz rfl, _, rfl, rfl, Zal (Zal (Zaq ?_))⟩
    rw [dd] at fin
    have le13 := le2.trans le3
    refine Zo0 (A := A.deeper (callEnvC fdDeed L 251)) (aT := aT) (aH := aH) (aR := aR) G hh (by show A.units + 3 + 4 < _; lia) ⟨?_, ?_, ?_, ?_, ?_, ?_, le3 _ _ e2, e3, h2L, h3L, le13, le13 _ _ c1, le13 _ _ c2, hl1⟩ hl h0 h1 o1 o2 fin <;> (first | assumption | rfl)
  · have hcl : cellsFrom (L + 1) fdDeed.scope.names [] = [(S "made", L + 2), (S "text", L + 1)] := rfl
    rw [hcl] at hm ⊢
    simp only [List.mem_cons, List.not_mem_nil, or_false, Prod.mk.injEq] at hm
    rcases hm with ⟨rfl, rfl⟩ | ⟨rfl, rfl⟩ <;> rfl
end
noncomputable def tags : List String := ["", "equal", "replace", "delete", "insert", "nothing"]
theorem sEqA : (tags.all fun a => tags.all fun b => (S a == S b) == decide (a = b)) = true := by decide
theorem sEq {a b : String} (ha : a ∈ tags) (hb : b ∈ tags) : (S a == S b) = decide (a = b) := by
  have := List.all_eq_true.mp sEqA a ha
  have := List.all_eq_true.mp this b hb
  exact eq_of_beq this
noncomputable abbrev RSt := String × Int × Int × List Int
noncomputable def sl (xs : List Int) (i j : Int) : List Int := (xs.drop i.toNat).take (j - i).toNat
noncomputable def Zd7 (notes : List Int) (now : Int) (st : RSt) (o : Op) : RSt :=
  (o.1, o.2.2.1, o.2.2.2.2, st.2.2.2 ++ if o.1 = "equal" then sl notes o.2.1 o.2.2.1 else List.replicate (o.2.2.2.2 - o.2.2.2.1).toNat now)
noncomputable def stR (notes : List Int) (now : Int) (ops : List Op) (k : Nat) : RSt := (ops.take k).foldl (Zd7 notes now) ("", 0, 0, [])
theorem Zmb {notes : List Int} {now : Int} {ops : List Op} {k : Nat} {o : Op} (h : ops[k]? = some o) : stR notes now ops (k + 1) = Zd7 notes now (stR notes now ops k) o := Zcs h
noncomputable def Zb7 (o : Op) : String := if o.2.1 < o.2.2.1 then (if o.2.2.2.1 < o.2.2.2.2 then "replace" else "delete") else if o.2.2.2.1 < o.2.2.2.2 then "insert" else "nothing"
structure OKop (old new : List Int) (st : RSt) (o : Op) : Prop where
  i : o.2.1 = st.2.1
  j : o.2.2.2.1 = st.2.2.1
  i0 : 0 ≤ o.2.1
  i1 : o.2.1 ≤ o.2.2.1
  i2 : o.2.2.1 ≤ old.length
  j0 : 0 ≤ o.2.2.2.1
  j1 : o.2.2.2.1 ≤ o.2.2.2.2
  j2 : o.2.2.2.2 ≤ new.length
  alt : st.1 = "" ∨ ¬ (o.1 = "equal" ↔ st.1 = "equal")
  eq : o.1 = "equal" → Zb7 o = "replace" ∧ sl old o.2.1 o.2.2.1 = sl new o.2.2.2.1 o.2.2.2.2
  ne : o.1 ≠ "equal" → o.1 = Zb7 o
  lst : st.1 ∈ tags
  tl : st.2.2.2.length ≤ 4000
theorem Zg2 (o : Op) : Zb7 o ∈ tags := by unfold Zb7 tags; split <;> split <;> simp
theorem OKop.tag {old new : List Int} {st : RSt} {o : Op} (h : OKop old new st o) : o.1 ∈ tags := by
  by_cases e : o.1 = "equal"
  · rw [e]; simp [tags]
  · rw [h.ne e]; exact Zg2 o
theorem Zok {xs : List Int} {i j : Int} (h0 : 0 ≤ i) (h1 : i ≤ j) : pick xs (some i) (some j) = sl xs i j := by
  have := Zfg xs i.toNat (j - i).toNat
  rw [show ((i.toNat : Nat) : Int) = i from by (exact Ziq (by assumption)), show i + (((j - i).toNat : Nat) : Int) = j from by lia] at this
  exact this
noncomputable abbrev rEnv (L : Addr) : Env := callEnvC fdRead L 256
noncomputable abbrev rS (i : Nat) : Stmt := (Zbm (topS PW 8)).getD i (.Pass default)
noncomputable abbrev rB (i : Nat) : Stmt := (kids (rS 1)).getD i (.Pass default)
structure RI (hb : Hp) (aT aO aN aQ : Addr) (st : RSt) (m : Loc) (hp : Hp) : Prop where
  t : m (S "told") = some (.ref aT)
  l : m (S "last") = some (.str (S st.1))
  a : m (S "at") = some (.tup [.int st.2.1, .int st.2.2.1])
  o : m (S "old") = some (.ref aO)
  n : m (S "new") = some (.ref aN)
  q : m (S "notes") = some (.ref aQ)
  T : hp aT = some (.list (iL st.2.2.2))
  le : Hp.Le hb hp
structure RJ (o : Op) (m : Loc) : Prop where
  g : m (S "tag") = some (.str (S o.1))
  i1 : m (S "i1") = some (.int o.2.1)
  i2 : m (S "i2") = some (.int o.2.2.1)
  j1 : m (S "j1") = some (.int o.2.2.2.1)
  j2 : m (S "j2") = some (.int o.2.2.2.2)
section
variable {A : Around} {m : Loc} {hp hb : Hp} {L aT aO aN aQ : Addr} {st : RSt} {o : Op} {P : AF → Loc → Hp → Prop} {old new notes : List Int} {now : Int}
theorem Zps (xs : List Int) (i j : Int) : (sl xs i j).length ≤ xs.length := by unfold sl; exact Zau (Zav (Nat.le_refl _))
theorem Zjx (R : RI hb aT aO aN aQ st m hp) (J : RJ o m) (rest : List Stmt) (h : ∀ m', RI hb aT aO aN aQ st m' hp → RJ o m' → m' (S "word") = some (.str (S (Zb7 o))) → EXs (model PW W0) B0 E0 A (rEnv L) rest m' hp P) :
    EXs (model PW W0) B0 E0 A (rEnv L) (rB 0 :: rest) m hp P := by
  have fin : ∀ x, x = Zb7 o → EXs (model PW W0) B0 E0 A (rEnv L) rest (upd m (S "word") (.str (S x))) hp P := fun x hx => by
    obtain ⟨t1, t2, t3, t4, t5, t6, t7, t8⟩ := R
    obtain ⟨u1, u2, u3, u4, u5⟩ := J
    refine h _ ⟨?_, ?_, ?_, ?_, ?_, ?_, t7, t8⟩ ⟨?_, ?_, ?_, ?_, ?_⟩ ?_ <;> first | (first | assumption | rfl) | (rw [hx]; (first | assumption | rfl))
  refine Zac ?_
  refine Za4 (Zad (Zaa J.i1 (Zaa J.i2 (Zcu (Zaf ?_)))))
  by_cases h1 : o.2.1 < o.2.2.1
  · refine iteT (decide_eq_true h1) (Zac (Zao (Zca (Zad (Zaa J.j1 (Zaa J.j2 (Zcu (Zaf ?_))))))))
    by_cases h2 : o.2.2.2.1 < o.2.2.2.2
    · exact iteT (decide_eq_true h2) (Zbk (Zag (fin _ (by unfold Zb7; rw [if_pos h1, if_pos h2]))))
    · exact iteF (decide_eq_false h2) (Zbk (Zag (fin _ (by unfold Zb7; rw [if_pos h1, if_neg h2]))))
  · refine iteF (decide_eq_false h1) (Zac (Zao (Zca (Zad (Zaa J.j1 (Zaa J.j2 (Zcu (Zaf ?_))))))))
    by_cases h2 : o.2.2.2.1 < o.2.2.2.2
    · exact iteT (decide_eq_true h2) (Zbk (Zag (fin _ (by unfold Zb7; rw [if_neg h1, if_pos h2]))))
    · exact iteF (decide_eq_false h2) (Zbk (Zag (fin _ (by unfold Zb7; rw [if_neg h1, if_neg h2]))))
theorem Zoj (hu : A.units + 64 < cLine) (K : OKop old new st o) (R : RI hb aT aO aN aQ st m hp) (J : RJ o m) (rest : List Stmt) (h : EXs (model PW W0) B0 E0 A (rEnv L) rest m hp P) :
    EXs (model PW W0) B0 E0 A (rEnv L) (rB 1 :: rest) m hp P := by
  refine Zac ?_
  refine Za4 (Zaz (Zcc (Zad (Zap (Zab (Zaa J.i1 (Zab (Zaa J.j1 (Zae ⟨sz rfl, Zaa R.a ?_⟩)))))))))
  refine Zih (.tup (.cons (.int _) (.cons (.int _) .nil))) (.tup (.cons (.int _) (.cons (.int _) .nil))) rfl rfl hu (Zaf ?_)
  refine iteF (by rw [K.i, K.j]; simp [PyData.eqv, PyData.eqvAll]) ?_
  have fin : ALLT (model PW W0) B0 E0 A (rEnv L) .Or [] m hp fun c hp' => if c = true then EXs (model PW W0) B0 E0 A (rEnv L) [.Return (some (.Constant .none 0 ⟨493, 19, 493, 23⟩)) ⟨493, 12, 493, 23⟩] m hp' (fun f m' hp' => match f with | AF.next => EXs (model PW W0) B0 E0 A (rEnv L) rest m' hp' P | f => P f m' hp') else EXs (model PW W0) B0 E0 A (rEnv L) [] m hp' (fun f m' hp' => match f with | AF.next => EXs (model PW W0) B0 E0 A (rEnv L) rest m' hp' P | f => P f m' hp') :=
    Zev (iteF rfl (Zag h))
  refine Zcc (Zaz (Zai (Zad (Zaa R.l (Zbk (Zlb (Zaf ?_)))))))
  have e1 : (S st.1 != S "") = !decide (st.1 = "") := by rw [bne, sEq K.lst (by simp [tags])]
  by_cases h1 : st.1 = ""
  · exact iteF (by rw [e1, decide_eq_true h1]; rfl) (iteF rfl fin)
  · refine iteT (by rw [e1, decide_eq_false h1]; rfl) (Zai (Zad (Zes (Zaa J.g (Zbk (Zld (Zes (Zaa R.l (Zbk (Zld ?_))))))))))
    refine Zqu (.bool _) (.bool _) rfl rfl hu (Zaf ?_)
    have hne : ¬ (o.1 = "equal" ↔ st.1 = "equal") := K.alt.resolve_left h1
    refine iteF ?_ (iteF rfl fin)
    rw [sEq K.tag (by simp [tags]), sEq K.lst (by simp [tags])]
    by_cases a : o.1 = "equal" <;> by_cases b : st.1 = "equal"
    · exact absurd (iff_of_true a b) hne
    · simp [a, b, PyData.eqv]
    · simp [a, b, PyData.eqv]
    · exact absurd (iff_of_false a b) hne
end
theorem Zef : ∀ xs ys : List Int, PyData.eqvAll (xs.map .int) (ys.map .int) = decide (xs = ys)
  | [], [] => by simp [PyData.eqvAll]
  | [], y :: ys => by simp [PyData.eqvAll]
  | x :: xs, [] => by simp [PyData.eqvAll]
  | x :: xs, y :: ys => by
    simp only [List.map_cons, PyData.eqvAll, Zef xs ys, PyData.eqv, List.cons.injEq]
    by_cases h1 : x = y <;> by_cases h2 : xs = ys <;> simp [h1, h2]
theorem Zh9 (xs ys : List Int) : (PyData.list (xs.map .int)).eqv (.list (ys.map .int)) = decide (xs = ys) := by simp only [PyData.eqv]; exact Zef xs ys
theorem Zdm {hp : Hp} {L : Addr} : ∀ xs : List Int, RDs B0 hp L (xs.map .int) (xs.map .int)
  | [] => .nil
  | x :: xs => .cons (.int x) (Zdm xs)
theorem Zck (xs : List Int) : SeqAt.shaped (.list (xs.map .int)) = true := by
  have h1 : ∀ xs : List Int, PyData.canLayAll0 (xs.map .int) = true := by
    intro xs; induction xs with
    | nil => rfl
    | cons x xs ih => simp only [List.map_cons, PyData.canLayAll0, ih, Bool.and_true]; rfl
  have h2 : ∀ xs : List Int, PyData.depthAll (xs.map .int) ≤ 2 := by
    intro xs; induction xs with
    | nil => simp [PyData.depthAll]
    | cons x xs ih => simp only [List.map_cons, PyData.depthAll, PyData.depth]; assumption
  unfold SeqAt.shaped
  rw [Bool.and_eq_true, decide_eq_true_iff]
  refine ⟨?_, ?_⟩
  · simp only [PyData.canLay0]; exact h1 xs
  · have := h2 xs; simp only [PyData.depth]; (exact Nat.lt_of_le_of_lt (by assumption) (by decide))
section
variable {A : Around} {m : Loc} {hp hb : Hp} {L aT aO aN aQ : Addr} {st : RSt} {o : Op} {P : AF → Loc → Hp → Prop} {old new notes : List Int} {now : Int}
theorem Zjs {xs : List Int} {i j : Int} (h0 : 0 ≤ i) (h1 : i ≤ j) : pick (iL xs) (some i) (some j) = iL (sl xs i j) := by rw [Zbd, Zok h0 h1]
theorem Zjz (hh : A.handled = none) (R : RI hb aT aO aN aQ st m hp) (J : RJ o m) {told : List Int} (hT : hp aT = some (.list (iL told))) (h : ∀ m', RI hb aT aO aN aQ (o.1, o.2.2.1, o.2.2.2.2, told) m' hp → P .next m' hp) :
    EXs (model PW W0) B0 E0 A (rEnv L) [rB 3] m hp P := by
  refine Zac ?_
  refine Zar hh (names := [S "last", S "at"]) (Zap (Zab (Zaa J.g (Zab (Zap (Zab (Zaa J.i2 (Zab (Zaa J.j2 (Zae ⟨sz rfl, Zae ⟨sz rfl, _, rfl, rfl, Zal (Zal (Zaq (Zag (h _ ?_))))⟩⟩))))))))))
  obtain ⟨t1, t2, t3, t4, t5, t6, t7, t8⟩ := R
  exact ⟨by first | assumption | rfl, by first | assumption | rfl, by first | assumption | rfl, by first | assumption | rfl, by first | assumption | rfl, by first | assumption | rfl, hT, t8⟩
theorem Zo9 {p1 p2 p3 p4 p5 p6 p7 : Pos} {Q : AV → Hp → Prop} (G : Gnd (KW W0) B0) (hh : A.handled = none) (J : RJ o m) (h0 : 0 ≤ o.2.2.2.1) (h1 : o.2.2.2.1 ≤ o.2.2.2.2) (h2 : o.2.2.2.2 ≤ 4000) (hc : hp (L + 1) = some (.cell (some (.int now))))
    (h : ∀ hp' acc, hp acc = none → acc ≠ L → Hp.Le hp hp' → hp' acc = some (.list (iL (List.replicate (o.2.2.2.2 - o.2.2.2.1).toNat now))) → Q (.ref acc) hp') :
    EV (model PW W0) B0 E0 A (rEnv L) (.ListComp (.Name (S "now") p1) [⟨.Name (S "j") p2, .Call (.Name (S "range") p3) [.Name (S "j1") p4, .Name (S "j2") p5] [] p6, [], 0⟩]
      ({ kind := .function, names := [(S ".0", .local), (S "j", .local), (S "now", .free)], isGenerator := false, isCoroutine := false, more := [] } : Scope) p7) m hp Q := by
  have hcL : L + 1 ≠ L := by simp
  refine Zg0 (p := fun _ => true) (e := fun _ => .int now) (cl := [(S "now", L + 1)]) hh rfl (by decide) (by decide) (fun _ => rfl) ?_
  refine Zc0 (Zay G (Zcw W0) Zci (by decide) (fun _ => Zdl) ⟨rfl, Zab (Zaa J.j1 (Zab (Zaa J.j2 (Zae (Zet fun r ob hr hrL ro => ?_)))))⟩)
  refine ⟨r, ob, _, _, rfl, Hp.ss .., hrL, ro, by lia, by omega, by lia, by omega, by omega, fun C m₂ hp₃ i hi hC hCL hle3 hm₂ => ?_, fun acc hacc haccL => ?_⟩
  · have hle : Hp.Le hp (hp.set r (.obj ob)) := (Hp.Le.refl _).set hr _
    have e1 : hp₃ (L + 1) = some (.cell (some (.int now))) := hle3 _ _ (by rw [show (callEnvC fdRead L 256).locals = L from rfl, Hp.sn _ _ hcL]; exact hle _ _ hc)
    have n1 : L + 1 ≠ C := Hp.ne_of (hle _ _ hc) hC
    exact Zfu ⟨rfl, .refl _, fun _ => Zax (c := L + 1) rfl e1 n1 ⟨rfl, .refl _⟩⟩
  · refine h _ acc (((Hp.Le.refl hp).set hr _).none hacc) haccL (((Hp.Le.refl _).set hr _).set (((Hp.Le.refl hp).set hr _).none hacc) _) ?_
    rw [Hp.ss, List.filter_eq_self.mpr (fun _ _ => rfl)]
    generalize (o.2.2.2.2 - o.2.2.2.1).toNat = n
    rw [show iL (List.replicate n now) = List.replicate n (AV.int now) from List.map_replicate .., List.map_const', List.length_range]
theorem Zjy (G : Gnd (KW W0) B0) (hh : A.handled = none) (hu : A.units + 64 < cLine) (K : OKop old new st o) (R : RI hb aT aO aN aQ st m hp) (J : RJ o m) (hw : m (S "word") = some (.str (S (Zb7 o)))) (hbT : hb aT = none) (hTL : aT ≠ L) (hc : hb (L + 1) = some (.cell (some (.int now))))
    (lo : Lst B0 hb L aO (iL old)) (ln : Lst B0 hb L aN (iL new)) (lq : Lst B0 hb L aQ (iL notes)) (h4 : old.length ≤ 900) (h5 : new.length ≤ 900) (h6 : notes.length ≤ 900) {it : Addr} {ob : Obj} (hit : hp it = some (.obj ob))
    (h : ∀ m' hp', RI hb aT aO aN aQ (Zd7 notes now st o) m' hp' → hp' it = some (.obj ob) → P .next m' hp') :
    EXs (model PW W0) B0 E0 A (rEnv L) [rB 2, rB 3] m hp P := by
  have nTi : it ≠ aT := fun e => by rw [e, R.T] at hit; cases hit
  have lf : ∀ {a : Addr} {xs : List AV} {hp' : Hp}, Lst B0 hb L a xs → Hp.Le hp hp' → Lst B0 hp' L a xs := fun x y => x.le (R.le.trans y)
  have ext : ∀ (hp2 : Hp) (ys : List Int), Hp.Le hp hp2 → (ys = if o.1 = "equal" then sl notes o.2.1 o.2.2.1 else List.replicate (o.2.2.2.2 - o.2.2.2.1).toNat now) → EXs (model PW W0) B0 E0 A (rEnv L) [rB 3] m (hp2.set aT (.list (iL st.2.2.2 ++ iL ys))) P := fun hp2 ys le hy => by
    have hT : (hp2.set aT (.list (iL st.2.2.2 ++ iL ys))) aT = some (.list (iL (st.2.2.2 ++ ys))) := by rw [Hp.ss]; simp
    have R' : RI hb aT aO aN aQ (st.1, st.2.1, st.2.2.1, st.2.2.2 ++ ys) m (hp2.set aT (.list (iL st.2.2.2 ++ iL ys))) := ⟨R.t, R.l, R.a, R.o, R.n, R.q, hT, (R.le.trans le).set hbT _⟩
    refine Zjz hh R' J hT fun m' R2 => h _ _ ?_ (Hp.snt nTi (le _ _ hit))
    unfold Zd7
    rw [← hy]; exact R2
  refine Zac ?_
  refine Za4 (Zad (Zaa J.g (Zbk (Zld (Zaf ?_)))))
  by_cases e : o.1 = "equal"
  · refine iteT (by rw [sEq K.tag (by simp [tags]), decide_eq_true e]) ?_
    obtain ⟨w1, w2⟩ := K.eq e
    refine Zac (Za4 (Zaz (Zcc (Zad (Zaa hw (Zbk (Zlb (Zaf (iteF ?_ ?_)))))))))
    · rw [w1]; decide
    refine Zcc (Zad (Zb4 (Zaa R.o (Zaa J.i1 (Zaa J.i2 ⟨aO, _, _, _, rfl, lf lo (.refl _), by rw [List.length_map]; (exact Nat.le_trans (by assumption) (by decide)), rfl, rfl, fun b1 hp2 hb1 hb1L le2 e1 => ?_⟩)))))
    refine Zb4 (Zaa R.n (Zaa J.j1 (Zaa J.j2 ⟨aN, _, _, _, rfl, lf ln le2, by rw [List.length_map]; (exact Nat.le_trans (by assumption) (by decide)), rfl, rfl, fun b2 hp3 hb2 hb2L le3 e2 => ?_⟩)))
    rw [Zjs K.i0 K.i1] at e1
    rw [Zjs K.j0 K.j1] at e2
    refine Zih (.list (.own (le3 _ _ e1) hb1L) (Zdm _)) (.list (.own e2 hb2L) (Zdm _)) (Zck _) (Zck _) hu (Zaf ?_)
    rw [Zh9, decide_eq_true w2]
    have le13 := le2.trans le3
    refine iteF rfl (Zev (iteF rfl (Zag (Zac (Za3 (Zgz (Zaa R.t ⟨aT, _, rfl, le13 _ _ R.T, hTL, Zab (Zb4 (Zaa R.q (Zaa J.i1 (Zaa J.i2 ⟨aQ, _, _, _, rfl, lf lq le13, by rw [List.length_map]; (exact Nat.le_trans (by assumption) (by decide)), rfl, rfl, fun b3 hp4 hb3 hb3L le4 e3 => ?_⟩))))⟩)))))))
    rw [Zjs K.i0 K.i1] at e3
    have hl := Zps notes o.2.1 o.2.2.1
    refine Zae ⟨_, b3, _, rfl, le4 _ _ (le13 _ _ R.T), e3, hb3L, by rw [List.length_map, List.length_map]; have := K.tl; lia, by simp, by simp, by simp, Zag (ext _ _ (le13.trans le4) (by rw [if_pos e]))⟩
  · refine iteF (by rw [sEq K.tag (by simp [tags]), decide_eq_false e]) ?_
    have w1 := K.ne e
    refine Zac (Za4 (Zad (Zaa J.g (Zaa hw (Zlb (Zaf (iteF ?_ (Zag ?_))))))))
    · rw [← w1, bne, sEq K.tag K.tag, decide_eq_true rfl]; rfl
    refine Zac (Za3 (Zgz (Zaa R.t ⟨aT, _, rfl, R.T, hTL, Zab (Zo9 G hh J K.j0 K.j1 (by have := K.j2; lia) (R.le _ _ hc) fun hp2 b3 hb3 hb3L le2 e3 => ?_)⟩)))
    refine Zae ⟨_, b3, _, rfl, le2 _ _ R.T, e3, hb3L, by rw [List.length_map, List.length_map, List.length_replicate]; have := K.tl; have := K.j0; have := K.j2; lia, by simp, by simp, by simp, Zag (ext _ _ le2 (by rw [if_neg e]))⟩
end
section
variable {A : Around} {env : Env} {m : Loc} {hp hb : Hp} {aC aO aN aQ : Addr} {ops : List Op} {old new notes : List Int} {now : Int}
theorem Zpe {Q : AV → Hp → Prop} (G : Gnd (KW W0) B0) (hh : A.handled = none) (hu : A.units + 70 < cLine) (hroom : A.depth < recursionLimit)
    (lc : Lst B0 hp env.locals aC (ops.map oAV)) (lo : Lst B0 hp env.locals aO (iL old)) (ln : Lst B0 hp env.locals aN (iL new)) (lq : Lst B0 hp env.locals aQ (iL notes)) (h4 : old.length ≤ 900) (h5 : new.length ≤ 900) (h6 : notes.length ≤ 900)
    (ok : ∀ k o, ops[k]? = some o → OKop old new (stR notes now ops k) o) (e1 : (stR notes now ops ops.length).2.1 = old.length) (e2 : (stR notes now ops ops.length).2.2.1 = new.length)
    (h : ∀ hp' r, hp r = none → r ≠ env.locals → hp' r = some (.list (iL (stR notes now ops ops.length).2.2.2)) → (∀ z o, z ≠ env.locals → hp z = some o → hp' z = some o) → hp' env.locals = none → Q (.ref r) hp') :
    CL (model PW W0) B0 E0 A env (.ref 256) m [.ref aC, .ref aO, .ref aN, .ref aQ, .int now] hp Q := by
  refine CD.cl (Zio (bs := [(S "codes", .ref aC), (S "old", .ref aO), (S "new", .ref aN), (S "notes", .ref aQ), (S "now", .int now)]) (body := Zbm (topS PW 8)) G (Zp9 W0) (by kernel_rfl) rfl hroom rfl (fun s vs hv => ?_) (fun L x hx => ?_) (fun L hL hLe hcs => ?_) (fun L n c hm => ?_))
  · obtain ⟨v, u, z, y, q, rfl, h1, h2, h3, h4, h5⟩ := Zie hv
    exact ⟨[(S "codes", v), (S "old", u), (S "new", z), (S "notes", y), (S "now", q)], rfl, rfl, .mk h1 (.mk h2 (.mk h3 (.mk h4 (.mk h5 .nil))))⟩
  · simp only [List.mem_cons, List.not_mem_nil, or_false] at hx
    rcases hx with rfl | rfl | rfl | rfl | rfl
    · exact .inl rfl
    · exact .inl rfl
    · exact .inl rfl
    · exact .inl rfl
    · exact .inr ⟨rfl, rfl⟩
  · have hcl : cellsFrom (L + 1) fdRead.scope.names [] = [(S "now", L + 1)] := rfl
    rw [hcl] at hcs ⊢
    have f1 := hcs (S "now") (L + 1) (by simp)
    have g1 : (bindLA (callEnvC fdRead L 256).kindOf [(S "codes", AV.ref aC), (S "old", .ref aO), (S "new", .ref aN), (S "notes", .ref aQ), (S "now", .int now)] fun _ => none) (S "codes") = some (.ref aC) := rfl
    have g2 : (bindLA (callEnvC fdRead L 256).kindOf [(S "codes", AV.ref aC), (S "old", .ref aO), (S "new", .ref aN), (S "notes", .ref aQ), (S "now", .int now)] fun _ => none) (S "old") = some (.ref aO) := rfl
    have g3 : (bindLA (callEnvC fdRead L 256).kindOf [(S "codes", AV.ref aC), (S "old", .ref aO), (S "new", .ref aN), (S "notes", .ref aQ), (S "now", .int now)] fun _ => none) (S "new") = some (.ref aN) := rfl
    have g4 : (bindLA (callEnvC fdRead L 256).kindOf [(S "codes", AV.ref aC), (S "old", .ref aO), (S "new", .ref aN), (S "notes", .ref aQ), (S "now", .int now)] fun _ => none) (S "notes") = some (.ref aQ) := rfl
    generalize bindLA (callEnvC fdRead L 256).kindOf [(S "codes", AV.ref aC), (S "old", .ref aO), (S "new", .ref aN), (S "notes", .ref aQ), (S "now", .int now)] (fun _ => none) = m0 at *
    generalize hhp1 : Za7 (hp.set env.locals (.ns m)) _ _ = hp1
    have c1 : hp1 (L + 1) = some (.cell (some (.int now))) := by rw [← hhp1]; simp [Za7, List.find?]; rfl
    have hle : Hp.Le (hp.set env.locals (.ns m)) hp1 := fun z o e => by
      have k : ∀ c, hp c = none → c ≠ env.locals → c ≠ z := fun c a b e' => by subst e'; rw [Hp.sn _ _ b, a] at e; cases e
      rw [← hhp1]
      simp only [Za7, List.find?, decide_eq_false (k _ f1.1 f1.2.1)]
      exact e
    clear hhp1
    have lc1 := (lc.call (m := m) hL).le hle
    have lo1 := (lo.call (m := m) hL).le hle
    have ln1 := (ln.call (m := m) hL).le hle
    have lq1 := (lq.call (m := m) hL).le hle
    show EXs _ _ _ _ _ (Zbm (topS PW 8)) _ _ _
    have split : Zbm (topS PW 8) = [rS 0, rS 1, rS 2, rS 3] := rfl
    rw [split]
    refine Zac ?_
    refine Zar hh (names := [S "told", S "last", S "at"]) (Zap (Zab (Zbq (Zae ⟨Nat.zero_le _, fun aT hT hTL => ?_⟩))))
    refine Zab (Zbk (Zab (Zap (Zab (Zaj (Zab (Zaj (Zae ⟨sz rfl, Zae ⟨sz rfl, _, rfl, rfl, Zal (Zal (Zal (Zaq ?_)))⟩⟩))))))))
    try dsimp only
    generalize hmx : upd (upd (upd m0 _ _) _ _) _ _ = m1
    have R0 : RI hp1 aT aO aN aQ (stR notes now ops 0) m1 (hp1.set aT (.list [])) := ⟨by subst hmx; (first | assumption | rfl), by subst hmx; (first | assumption | rfl), by subst hmx; (first | assumption | rfl), by subst hmx; (first | assumption | rfl), by subst hmx; (first | assumption | rfl), by subst hmx; (first | assumption | rfl), Hp.ss .., (Hp.Le.refl _).set hT _⟩
    have p1 : m1 (S "codes") = some (.ref aC) := by subst hmx; (first | assumption | rfl)
    clear hmx g1 g2 g3 g4
    refine Zac ?_
    refine Zem hh (Zaa p1 ⟨aC, _, rfl, lc1.le R0.le, fun it hit hitL => ?_⟩)
    refine ⟨fun k m₂ hp₂ => RI hp1 aT aO aN aQ (stR notes now ops k) m₂ hp₂, fun ob => ⟨R0.t, R0.l, R0.a, R0.o, R0.n, R0.q, Hp.snt (Hp.ne_of R0.T hit) R0.T, R0.le.set (R0.le.none hit) _⟩, fun k m₂ hp₂ ob y => ⟨y.t, y.l, y.a, y.o, y.n, y.q, Hp.snt (Hp.ne_of R0.T hit) y.T, y.le.set (R0.le.none hit) _⟩, fun k m₂ hp₂ y => lc1.le y.le, fun k v m₂ hp₂ ob hv y hob => ?_, fun m₂ hp₂ y => ?_⟩
    · obtain ⟨o, hok, rfl⟩ : ∃ o, ops[k]? = some o ∧ oAV o = v := by
        rw [List.getElem?_map] at hv
        exact Option.map_eq_some_iff.mp hv
      have K := ok k o hok
      refine Zb5 hh rfl rfl rfl (Zan (Zak (Zan (Zak (Zan (Zak (Zan (Zak (Zan (Zak (Zaq ?_)))))))))))
      try dsimp only
      generalize hmx : upd (upd (upd (upd (upd m₂ _ _) _ _) _ _) _ _) _ _ = m3
      have J : RJ o m3 := ⟨by subst hmx; (first | assumption | rfl), by subst hmx; (first | assumption | rfl), by subst hmx; (first | assumption | rfl), by subst hmx; (first | assumption | rfl), by subst hmx; (first | assumption | rfl)⟩
      obtain ⟨t1, t2, t3, t4, t5, t6, t7, t8⟩ := y
      have R3 : RI hp1 aT aO aN aQ (stR notes now ops k) m3 hp₂ := ⟨by subst hmx; (first | assumption | rfl), by subst hmx; (first | assumption | rfl), by subst hmx; (first | assumption | rfl), by subst hmx; (first | assumption | rfl), by subst hmx; (first | assumption | rfl), by subst hmx; (first | assumption | rfl), t7, t8⟩
      clear hmx t1 t2 t3 t4 t5 t6
      have hu' : (A.deeper (callEnvC fdRead L 256)).units + 64 < cLine := by show A.units + 3 + 64 < cLine; lia
      refine Zjx (A := A.deeper (callEnvC fdRead L 256)) R3 J _ fun m4 R4 J4 hw => ?_
      refine Zoj (A := A.deeper (callEnvC fdRead L 256)) hu' K R4 J4 _ ?_
      refine Zjy (A := A.deeper (callEnvC fdRead L 256)) (now := now) (notes := notes) (old := old) (new := new) G hh hu' K R4 J4 hw hT hTL c1 lo1 ln1 lq1 h4 h5 h6 hob fun m5 hp5 R5 hob5 => ⟨?_, hob5⟩
      show RI hp1 aT aO aN aQ (stR notes now ops (k + 1)) m5 hp5
      rw [Zmb hok]; exact R5
    · obtain ⟨t1, t2, t3, t4, t5, t6, t7, t8⟩ := y
      rw [List.length_map] at t3 t7
      have nTi := Hp.ne_of R0.T hit
      have le9 : Hp.Le hp1 (hp₂.del it) := t8.del (R0.le.none hit)
      have hT9 : (hp₂.del it) aT = some (.list (iL (stR notes now ops ops.length).2.2.2)) := by rw [Hp.del_ne _ nTi]; exact t7
      generalize hp₂.del it = hp9 at le9 hT9 ⊢
      refine Zac ?_
      refine Za4 (Zad (Zaa t3 (Zap (Zab (Za1 (Zay G (Zbz W0) Zbj (by decide) (fun _ => Zct) ⟨rfl, Zab (Zaa t4 (Zae (Zcb (lo1.le le9) (by rw [List.length_map]; exact sz' (by (exact Nat.le_trans (by assumption) (by decide)))) ?_)))⟩))))))
      refine Zab (Za1 (Zay G (Zbz W0) Zbj (by decide) (fun _ => Zct) ⟨rfl, Zab (Zaa t5 (Zae (Zcb (ln1.le le9) (by rw [List.length_map]; exact sz' (by (exact Nat.le_trans (by assumption) (by decide)))) (Zae ⟨sz rfl, ?_⟩))))⟩))
      rw [List.length_map, List.length_map]
      refine Zih (.tup (.cons (.int _) (.cons (.int _) .nil))) (.tup (.cons (.int _) (.cons (.int _) .nil))) rfl rfl (by show A.units + 3 + 64 < cLine; lia) (Zaf ?_)
      refine iteF (by rw [e1, e2]; simp [PyData.eqv, PyData.eqvAll]) (Zag (Zac ?_))
      refine Za6 (Zaa t1 ?_)
      have hT0 := hle.none hT
      have hTE : aT ≠ env.locals := fun e => by rw [e, Hp.ss] at hT0; cases hT0
      have hE9 : hp9 env.locals = some (.ns m) := le9 _ _ (hle _ _ (Hp.ss ..))
      have hLn : (hp.set env.locals (.ns m)) L = none := Hp.snt hLe hL
      refine Zcr hE9 (h _ aT (Hp.snr hTE hT0) hTE ?_ (fun z o hz e => ?_) (by simp [Hp.cut]))
      · rw [Hp.cut_eq hTE (show aT ≠ L from hTL)]; exact hT9
      · have e' : (hp.set env.locals (.ns m)) z = some o := Hp.snt hz e
        rw [Hp.cut_eq hz (Hp.ne_of e' hLn)]; exact le9 _ _ (hle _ _ e')
  · have hcl : cellsFrom (L + 1) fdRead.scope.names [] = [(S "now", L + 1)] := rfl
    rw [hcl] at hm ⊢
    simp only [List.mem_cons, List.not_mem_nil, or_false, Prod.mk.injEq] at hm
    obtain ⟨rfl, rfl⟩ := hm; rfl
end
section
variable {A : Around} {E : Value → Shared → Prop} {env : Env} {m : Loc} {hp : Hp} {K : Frag}
theorem Zo7 {a b : Addr} {xs ys : List AV} {Q : AV → Hp → Prop} (ha : Lst B0 hp env.locals a xs) (hb : Lst B0 hp env.locals b ys) (hsz : xs.length + ys.length ≤ 5000)
    (h : ∀ c, hp c = none → c ≠ env.locals → Q (.ref c) (hp.set c (.list (xs ++ ys)))) : OP2 (model PW W0) B0 E A env (binaryOp .Add) m (.ref a) (.ref b) hp Q := fun s u v r hu hv => by
  refine hide fun Gq kq => ?_
  simp only [VR] at hu hv; subst hu; subst hv
  obtain ⟨vs, hl, hvs⟩ := r.lst ha
  obtain ⟨us, hl', hus⟩ := r.lst hb
  have e1 : vs.size = xs.length := by rw [← Array.length_toList]; exact hvs.length
  have e2 : us.size = ys.length := by rw [← Array.length_toList]; exact hus.length
  obtain ⟨⟨cls, dd, data, sl⟩, ho, hc, n, hd⟩ := id hl
  obtain ⟨⟨cls2, dd2, data2, sl2⟩, ho2, hc2, n2, hd2⟩ := id hl'
  refine kq ?_; clear kq Gq
  simp only at hc hd hc2 hd2
  subst hc hd hc2 hd2
  have hz := sizeLine_eq
  refine concat_meets ⟨_, ho, rfl⟩ ⟨_, ho2, rfl⟩ noFill_list_add seq_list_add PySem.F.slot_list_add PySem.F.entry_list_add (PySem.F.args_list_add_2 _ _) (list_addW a b vs us n n2 dd dd2 sl sl2 (by lia)) ⟨ho, ho2, ?_⟩
  have le : ImmLe s.heap (s.heap.push { cls := .type "list", data := .seq (vs ++ us) }) := ImmLe.keep fun b o'' e => Heap.get?_push_of_some _ e
  have x := r.newAt { cls := .type "list", data := .seq (vs ++ us) } (.list (xs ++ ys)) ⟨_, 0, IsL.new _ _, by rw [Array.toList_append]; exact (hvs.mono le).append (hus.mono le)⟩
  exact mkV (av := .ref _) x.1 x.2.2.2 VR_ref (h _ x.2.1 x.2.2.1)
end
inductive Stp : List Int → List Int → List Int → Prop
  | dis (h X Y r : List Int) : (∀ x ∈ X, x ∉ Y) → Stp (h ++ X ++ r) (h ++ Y ++ r) []
  | swap (h p q r : List Int) : Stp (h ++ p ++ q ++ r) (h ++ q ++ p ++ r) (if p.length ≥ q.length then q else p)
  | turn (h u r d : List Int) : (∀ x, x ∈ d ↔ x ∈ u.drop 1) → Stp (h ++ u ++ r) (h ++ u.reverse ++ r) d
structure TX (made : Int) (t : List Int) : Prop where
  nd : t.Nodup
  lo : ∀ l ∈ t, 0 ≤ l
  hi : ∀ l ∈ t, l < made
theorem freshF_mem {made l : Int} {n : Nat} : l ∈ Zbs made n ↔ made ≤ l ∧ l < made + n := by
  unfold Zbs
  simp only [List.mem_map, List.mem_range]
  constructor
  · rintro ⟨k, hk, rfl⟩; lia
  · intro h; exact ⟨(l - made).toNat, by lia, by lia⟩
theorem Zdx (made : Int) (n : Nat) : (Zbs made n).Nodup := by
  unfold Zbs
  rw [List.Nodup, List.pairwise_map]
  exact List.Pairwise.imp (fun h => by lia) (List.pairwise_lt_range (n := n))
theorem outF_mem {t : List Int} {made l : Int} : l ∈ outF t made ↔ (0 ≤ l ∧ l < made) ∧ l ∉ t := by
  unfold outF
  simp only [List.mem_filter, List.mem_map, List.mem_range, Bool.not_eq_true', List.contains_eq_mem, decide_eq_false_iff_not]
  constructor
  · rintro ⟨⟨k, hk, rfl⟩, h⟩; exact ⟨by lia, h⟩
  · rintro ⟨h1, h2⟩; exact ⟨⟨l.toNat, by lia, by lia⟩, h2⟩
theorem Zis (t : List Int) (made : Int) : (outF t made).Nodup := by
  unfold outF
  refine List.Pairwise.filter _ ?_
  rw [List.pairwise_map]
  exact List.Pairwise.imp (fun h => by lia) (List.pairwise_lt_range (n := made.toNat))
theorem cut3 (t : List Int) (a n : Nat) : t = t.take a ++ (t.drop a).take n ++ (t.drop a).drop n := by
  rw [List.append_assoc, List.take_append_drop, List.take_append_drop]
theorem cut4 (t : List Int) (a n k : Nat) : t = t.take a ++ (t.drop a).take n ++ ((t.drop a).drop n).take k ++ (t.drop a).drop (n + k) := by
  have e : (t.drop a).drop (n + k) = ((t.drop a).drop n).drop k := by rw [List.drop_drop (i := k)]
  rw [e, List.append_assoc, List.take_append_drop, List.append_assoc, List.take_append_drop, List.take_append_drop]
theorem Zmz {d : Deed} {t : List Int} {made : Int} (T : TX made t) : Stp t (Zbr d t made).1 (Zbr d t made).2.1 ∧ Stp (Zbr d t made).1 t (Zbr d t made).2.2 := by
  unfold Zbr
  dsimp only
  split
  · have e : t = t.take d.at_ ++ [] ++ t.drop d.at_ := by simp
    have a := Stp.dis (t.take d.at_) [] (Zbs made d.one) (t.drop d.at_) (by simp)
    have b := Stp.dis (t.take d.at_) (Zbs made d.one) [] (t.drop d.at_) (by simp)
    rw [← e] at a b
    exact ⟨a, b⟩
  split
  · have e := cut3 t d.at_ d.one
    have a := Stp.dis (t.take d.at_) ((t.drop d.at_).take d.one) [] ((t.drop d.at_).drop d.one) (by simp)
    have b := Stp.dis (t.take d.at_) [] ((t.drop d.at_).take d.one) ((t.drop d.at_).drop d.one) (by simp)
    rw [← e, List.append_nil] at a b
    exact ⟨a, b⟩
  split
  · have e := cut4 t d.at_ d.one d.two
    have a := Stp.swap (t.take d.at_) ((t.drop d.at_).take d.one) (((t.drop d.at_).drop d.one).take d.two) ((t.drop d.at_).drop (d.one + d.two))
    have b := Stp.swap (t.take d.at_) (((t.drop d.at_).drop d.one).take d.two) ((t.drop d.at_).take d.one) ((t.drop d.at_).drop (d.one + d.two))
    rw [← e] at a b
    exact ⟨a, b⟩
  split
  · have e := cut3 t d.at_ (d.one + d.two)
    have a := Stp.turn (t.take d.at_) ((t.drop d.at_).take (d.one + d.two)) ((t.drop d.at_).drop (d.one + d.two)) (((t.drop d.at_).take (d.one + d.two)).drop 1) (fun _ => Iff.rfl)
    have b := Stp.turn (t.take d.at_) ((t.drop d.at_).take (d.one + d.two)).reverse ((t.drop d.at_).drop (d.one + d.two)) ((t.drop d.at_).take (d.one + d.two)).dropLast (fun x => by
      rw [List.drop_one, List.tail_reverse, List.mem_reverse])
    rw [List.reverse_reverse] at b
    rw [← e] at a b
    exact ⟨a, b⟩
  split
  · have e := cut3 t d.at_ d.one
    have hm : ∀ x ∈ (t.drop d.at_).take d.one, x ∉ Zbs made d.two := fun x hx hf => by
      have := T.hi x (List.mem_of_mem_drop (List.mem_of_mem_take hx))
      have := (freshF_mem.mp hf).1
      lia
    have a := Stp.dis (t.take d.at_) ((t.drop d.at_).take d.one) (Zbs made d.two) ((t.drop d.at_).drop d.one) hm
    have b := Stp.dis (t.take d.at_) (Zbs made d.two) ((t.drop d.at_).take d.one) ((t.drop d.at_).drop d.one) (fun x h1 h2 => hm x h2 h1)
    rw [← e] at a b
    exact ⟨a, b⟩
  · generalize ((outF t made).drop (d.x / 16 % (((outF t made).length : Int) + 1)).toNat).take d.one = Y
    have e : t = t.take d.at_ ++ [] ++ t.drop d.at_ := by simp
    have a := Stp.dis (t.take d.at_) [] Y (t.drop d.at_) (by simp)
    have b := Stp.dis (t.take d.at_) Y [] (t.drop d.at_) (by simp)
    rw [← e] at a b
    exact ⟨a, b⟩
theorem Zhz {α : Type} (h Y r : List α) : (h ++ Y ++ r).Perm (Y ++ (h ++ r)) := by
  rw [← List.append_assoc]; exact (List.perm_append_comm).append_right r
theorem Zj3 {h Y r : List Int} (h1 : (h ++ r).Nodup) (h2 : Y.Nodup) (h3 : ∀ x ∈ Y, x ∉ h ++ r) : (h ++ Y ++ r).Nodup := by
  rw [(Zhz h Y r).nodup_iff]
  exact List.nodup_append.mpr ⟨h2, h1, fun a ha b hb e => h3 a ha (e ▸ hb)⟩
noncomputable def mxF (made : Int) (t : List Int) : Int := t.foldl (fun m l => max m (l + 1)) made
theorem Zfh : ∀ (t : List Int) (made : Int), made ≤ mxF made t ∧ (∀ l ∈ t, l + 1 ≤ mxF made t) ∧ (mxF made t = made ∨ ∃ l ∈ t, mxF made t = l + 1)
  | [], made => ⟨Int.le_refl _, by simp, .inl rfl⟩
  | x :: t, made => by
    obtain ⟨a, b, c⟩ := Zfh t (max made (x + 1))
    have e : mxF made (x :: t) = mxF (max made (x + 1)) t := rfl
    rw [e]
    refine ⟨Int.le_trans (Int.le_max_left ..) a, fun l hl => ?_, ?_⟩
    · rcases List.mem_cons.mp hl with rfl | hl
      · exact Int.le_trans (Int.le_max_right ..) a
      · exact b l hl
    · rcases c with c | ⟨l, hl, c⟩
      · rw [c]
        by_cases h : made ≤ x + 1
        · exact .inr ⟨x, .head _, Int.max_eq_right h⟩
        · exact .inl (Int.max_eq_left (Int.le_of_lt (Int.not_le.mp h)))
      · exact .inr ⟨l, .tail _ hl, c⟩
theorem Zoz {d : Deed} {t : List Int} {made : Int} (T : TX made t) (h0 : 0 ≤ made) (o : d.one ≤ 4) (o2 : d.two ≤ 4) : TX (made + 4) (Zbr d t made).1 ∧ (Zbr d t made).1.length ≤ t.length + 4 := by
  obtain ⟨nd, lo, hi⟩ := T
  have sub1 : (t.take d.at_ ++ t.drop d.at_) = t := List.take_append_drop _ _
  have sub2 : ∀ n, (t.take d.at_ ++ (t.drop d.at_).drop n).Sublist t := fun n => by
    conv => rhs; rw [← sub1]
    exact List.Sublist.append (List.Sublist.refl _) (List.drop_sublist _ _)
  have fin : ∀ {h Y r : List Int}, (h ++ r).Sublist t → Y.Nodup → (∀ x ∈ Y, x ∉ t ∧ 0 ≤ x ∧ x < made + 4) → Y.length ≤ 4 → TX (made + 4) (h ++ Y ++ r) ∧ (h ++ Y ++ r).length ≤ t.length + 4 := fun {h Y r} s y1 y2 y3 => by
    have mem : ∀ l ∈ h ++ Y ++ r, l ∈ Y ∨ l ∈ t := fun l hl => by
      have := (Zhz h Y r).mem_iff.mp hl
      rcases List.mem_append.mp this with x | x
      · exact .inl x
      · exact .inr (s.subset x)
    refine ⟨⟨Zj3 (nd.sublist s) y1 (fun x hx hm => (y2 x hx).1 (s.subset hm)), fun l hl => ?_, fun l hl => ?_⟩, ?_⟩
    · rcases mem l hl with x | x
      · exact (y2 l x).2.1
      · exact lo l x
    · rcases mem l hl with x | x
      · exact (y2 l x).2.2
      · have := hi l x; lia
    · have := s.length_le
      simp only [List.length_append] at this ⊢
      lia
  have frY : ∀ n, n ≤ 4 → ∀ x ∈ Zbs made n, x ∉ t ∧ 0 ≤ x ∧ x < made + 4 := fun n hn x hx => by
    have := freshF_mem.mp hx
    exact ⟨fun hm => by have := hi x hm; lia, by lia, by lia⟩
  have ord : ∀ {b : List Int}, b.Perm t → TX (made + 4) b ∧ b.length ≤ t.length + 4 := fun {b} p => ⟨⟨p.nodup_iff.mpr nd, fun l hl => lo l (p.mem_iff.mp hl), fun l hl => by have := hi l (p.mem_iff.mp hl); lia⟩, by rw [p.length_eq]; (exact Nat.le_add_right _ _)⟩
  unfold Zbr
  dsimp only
  split
  · exact fin (by rw [sub1]; exact .refl _) (Zdx _ _) (frY _ o) (by simp [Zbs]; exact o)
  split
  · have := fin (h := t.take d.at_) (Y := []) (r := (t.drop d.at_).drop d.one) (sub2 _) List.nodup_nil (by simp) (by simp)
    rw [List.append_nil] at this
    exact this
  split
  · refine ord ?_
    have e := cut4 t d.at_ d.one d.two
    generalize t.take d.at_ = h at *
    generalize (t.drop d.at_).take d.one = p at *
    generalize ((t.drop d.at_).drop d.one).take d.two = q at *
    generalize (t.drop d.at_).drop (d.one + d.two) = r at *
    rw [e, List.append_assoc h q p, List.append_assoc h p q]
    exact ((List.perm_append_comm).append_left h).append_right r
  split
  · refine ord ?_
    have e := cut3 t d.at_ (d.one + d.two)
    generalize t.take d.at_ = h at *
    generalize (t.drop d.at_).take (d.one + d.two) = p at *
    generalize (t.drop d.at_).drop (d.one + d.two) = r at *
    rw [e]
    exact ((List.reverse_perm p).append_left h).append_right r
  split
  · exact fin (sub2 _) (Zdx _ _) (frY _ o2) (by simp [Zbs]; exact o2)
  · refine fin (by rw [sub1]; exact .refl _) ((Zis t made).sublist ((List.take_sublist _ _).trans (List.drop_sublist _ _))) (fun x hx => ?_) (by rw [List.length_take]; lia)
    have := outF_mem.mp (List.mem_of_mem_drop (List.mem_of_mem_take hx))
    exact ⟨this.2, this.1.1, by omega⟩
noncomputable def verT (xs : List Int) : Nat → List Int × Int
  | 0 => ([0, 1, 2, 3, 4, 5], 6)
  | k + 1 => ((Zdi (xs.getD k 0) (verT xs k).1 (verT xs k).2).1, mxF (verT xs k).2 (Zdi (xs.getD k 0) (verT xs k).1 (verT xs k).2).1)
noncomputable def verD (xs : List Int) (k : Nat) : List Int × List Int := (Zdi (xs.getD k 0) (verT xs k).1 (verT xs k).2).2
theorem md4 (y : Int) : (1 + y % 4).toNat ≤ 4 := by lia
theorem Ziy (x : Int) (n : Nat) : (Zgd x n).one ≤ 4 ∧ (Zgd x n).two ≤ 4 := ⟨md4 _, md4 _⟩
theorem Zdq (xs : List Int) : ∀ k, TX (verT xs k).2 (verT xs k).1 ∧ 0 ≤ (verT xs k).2 ∧ (verT xs k).2 ≤ 6 + 4 * k ∧ (verT xs k).1.length ≤ 6 + 4 * k
  | 0 => by
    show TX 6 [0, 1, 2, 3, 4, 5] ∧ (0 : Int) ≤ 6 ∧ (6 : Int) ≤ 6 + 4 * ((0 : Nat) : Int) ∧ [(0 : Int), 1, 2, 3, 4, 5].length ≤ 6 + 4 * 0
    exact ⟨⟨by decide, by decide, by decide⟩, by decide, by decide, by decide⟩
  | k + 1 => by
    refine hide fun Gq kq => ?_
    obtain ⟨T, h0, h1, h2⟩ := Zdq xs k
    obtain ⟨o1, o2⟩ := Ziy (xs.getD k 0) (verT xs k).1.length
    obtain ⟨⟨nd, lo, hi⟩, hl⟩ := Zoz T h0 o1 o2
    refine kq ?_; clear kq Gq
    have e : verT xs (k + 1) = ((Zdi (xs.getD k 0) (verT xs k).1 (verT xs k).2).1, mxF (verT xs k).2 (Zdi (xs.getD k 0) (verT xs k).1 (verT xs k).2).1) := rfl
    rw [e]
    dsimp only
    change ((Zdi (xs.getD k 0) (verT xs k).1 (verT xs k).2).1).Nodup at nd
    change ∀ l ∈ (Zdi (xs.getD k 0) (verT xs k).1 (verT xs k).2).1, 0 ≤ l at lo
    change ∀ l ∈ (Zdi (xs.getD k 0) (verT xs k).1 (verT xs k).2).1, l < (verT xs k).2 + 4 at hi
    change ((Zdi (xs.getD k 0) (verT xs k).1 (verT xs k).2).1).length ≤ (verT xs k).1.length + 4 at hl
    refine hide fun Gq kq => ?_
    generalize (Zdi (xs.getD k 0) (verT xs k).1 (verT xs k).2).1 = b at *
    obtain ⟨m1, m2, m3⟩ := Zfh b (verT xs k).2
    refine kq ?_; clear kq Gq
    refine ⟨⟨nd, lo, fun l h => by have := m2 l h; assumption⟩, by (exact Int.le_trans (by assumption) (by assumption)), ?_, by lia⟩
    rcases m3 with m3 | ⟨l, hl', m3⟩
    · lia
    · have := hi l hl'; lia
theorem Zho (xs : List Int) (k : Nat) : Stp (verT xs k).1 (verT xs (k + 1)).1 (verD xs k).1 ∧ Stp (verT xs (k + 1)).1 (verT xs k).1 (verD xs k).2 := Zmz (Zdq xs k).1
noncomputable abbrev lEnv (L : Addr) : Env := callEnvC fdLaw L 261
noncomputable abbrev lS (i : Nat) : Stmt := (Zbm (topS PW 9)).getD i (.Pass default)
noncomputable abbrev lB (i : Nat) : Stmt := (kids (lS 1)).getD i (.Pass default)
noncomputable def dAV (p : Addr × Addr) : AV := .tup [.ref p.1, .ref p.2]
structure LA (xs : List Int) (k : Nat) (L aTs aLs : Addr) (rs : List Addr) (bc : List (Addr × Addr)) (hp : Hp) : Prop where
  T : hp aTs = some (.list (rs.map .ref))
  D : hp aLs = some (.list (bc.map dAV))
  nT : aTs ≠ L
  nD : aLs ≠ L
  ne : aTs ≠ aLs
  lr : rs.length = k + 1
  lb : bc.length = k
  nd : rs.Nodup
  vr : ∀ i a, rs[i]? = some a → hp a = some (.list (iL (verT xs i).1)) ∧ a ≠ L ∧ a ≠ aTs ∧ a ≠ aLs
  vb : ∀ i p, bc[i]? = some p → hp p.1 = some (.list (iL (verD xs i).1)) ∧ hp p.2 = some (.list (iL (verD xs i).2)) ∧ (p.1 ≠ L ∧ p.1 ≠ aTs ∧ p.1 ≠ aLs) ∧ p.2 ≠ L ∧ p.2 ≠ aTs ∧ p.2 ≠ aLs
theorem LA.move {xs : List Int} {k : Nat} {L aTs aLs : Addr} {rs : List Addr} {bc : List (Addr × Addr)} {hp hp' : Hp} (W : LA xs k L aTs aLs rs bc hp) (h : ∀ z ys, hp z = some (.list ys) → z ≠ L → hp' z = some (.list ys)) : LA xs k L aTs aLs rs bc hp' :=
  ⟨h _ _ W.T W.nT, h _ _ W.D W.nD, W.nT, W.nD, W.ne, W.lr, W.lb, W.nd, fun i a e => by obtain ⟨x, y⟩ := W.vr i a e; exact ⟨h _ _ x y.1, y⟩, fun i p e => by obtain ⟨x, y, z, z2⟩ := W.vb i p e; exact ⟨h _ _ x z.1, h _ _ y z2.1, z, z2⟩⟩
theorem Zh6 {α : Type} {l : List α} {x z : α} {i : Nat} (e : (l ++ [x])[i]? = some z) : (i < l.length ∧ l[i]? = some z) ∨ (i = l.length ∧ x = z) := by
  by_cases hi : i < l.length
  · rw [List.getElem?_append_left hi] at e
    exact .inl ⟨hi, e⟩
  · rw [List.getElem?_append_right (Nat.le_of_not_lt hi)] at e
    rcases Nat.eq_zero_or_pos (i - l.length) with h | h
    · rw [h] at e
      exact .inr ⟨by lia, Option.some.inj e⟩
    · rw [List.getElem?_eq_none (by simp; assumption)] at e; cases e
theorem LA.snoc {xs : List Int} {k : Nat} {L aTs aLs a b c : Addr} {rs : List Addr} {bc : List (Addr × Addr)} {hp hp' : Hp} (W : LA xs k L aTs aLs rs bc hp) (kp : ∀ z o, z ≠ aTs → z ≠ aLs → hp z = some o → hp' z = some o)
    (hT : hp' aTs = some (.list ((rs ++ [a]).map .ref))) (hD : hp' aLs = some (.list ((bc ++ [(b, c)]).map dAV))) (hna : a ∉ rs) (e1 : hp a = some (.list (iL (verT xs (k + 1)).1))) (e2 : hp b = some (.list (iL (verD xs k).1))) (e3 : hp c = some (.list (iL (verD xs k).2)))
    (ha : a ≠ L ∧ a ≠ aTs ∧ a ≠ aLs) (hb : b ≠ L ∧ b ≠ aTs ∧ b ≠ aLs) (hc : c ≠ L ∧ c ≠ aTs ∧ c ≠ aLs) : LA xs (k + 1) L aTs aLs (rs ++ [a]) (bc ++ [(b, c)]) hp' := by
  refine ⟨hT, hD, W.nT, W.nD, W.ne, by simp [W.lr], by simp [W.lb], List.nodup_append.mpr ⟨W.nd, by simp, fun x hx y hy e => by rw [List.mem_singleton] at hy; subst hy; exact hna (e ▸ hx)⟩, fun i z e => ?_, fun i p e => ?_⟩
  · rcases Zh6 e with ⟨_, e⟩ | ⟨hi, rfl⟩
    · obtain ⟨x, y⟩ := W.vr i z e
      exact ⟨kp _ _ y.2.1 y.2.2 x, y⟩
    · rw [hi, W.lr]
      exact ⟨kp _ _ ha.2.1 ha.2.2 e1, ha⟩
  · rcases Zh6 e with ⟨_, e⟩ | ⟨hi, rfl⟩
    · obtain ⟨x, y, z, z2⟩ := W.vb i p e
      exact ⟨kp _ _ z.2.1 z.2.2 x, kp _ _ z2.2.1 z2.2.2 y, z, z2⟩
    · rw [hi, W.lb]
      exact ⟨kp _ _ hb.2.1 hb.2.2 e2, kp _ _ hc.2.1 hc.2.2 e3, hb, hc⟩
section
variable {A : Around} {m : Loc} {hp : Hp} {L aTs aLs : Addr} {xs : List Int} {k : Nat} {rs : List Addr} {bc : List (Addr × Addr)} {P : AF → Loc → Hp → Prop}
theorem Ziu (G : Gnd (KW W0) B0) (hh : A.handled = none) (hu : A.units + 10 < cLine) (hroom : A.depth < recursionLimit) (hk : k < 70) (W : LA xs k L aTs aLs rs bc hp)
    (t1 : m (S "texts") = some (.ref aTs)) (t2 : m (S "lost") = some (.ref aLs)) (t3 : m (S "made") = some (.int (verT xs k).2)) (t4 : m (S "x") = some (.int (xs.getD k 0)))
    (h : ∀ m' hp' rs' bc', LA xs (k + 1) L aTs aLs rs' bc' hp' → m' (S "texts") = some (.ref aTs) → m' (S "lost") = some (.ref aLs) → m' (S "made") = some (.int (verT xs (k + 1)).2) → (∀ z o, z ≠ aTs → z ≠ aLs → z ≠ L → hp z = some o → hp' z = some o) → P .next m' hp') :
    EXs (model PW W0) B0 (fun _ _ => False) A (lEnv L) [lB 0, lB 1, lB 2, lB 3] m hp P := by
  refine hide fun Gq kq => ?_
  obtain ⟨-, m0, m1, ml⟩ := Zdq xs k
  obtain ⟨-, m0', m1', ml'⟩ := Zdq xs (k + 1)
  obtain ⟨r, hr⟩ : ∃ r, rs[k]? = some r := ⟨_, List.getElem?_eq_getElem (by rw [W.lr]; (exact Nat.lt_succ_self _))⟩
  obtain ⟨vr, vr2⟩ := W.vr k r hr
  refine kq ?_; clear kq Gq
  have lrs := W.lr
  have lbc := W.lb
  refine Zac ?_
  refine Zcz (Zim G (Zqb W0) rfl (Zeq G (Zqg W0) (fun _ => VR_ref) ⟨rfl, Zab (Zaa t4 (Zab (Zam (Zaa t1 (Zgx (Zaj ⟨1, rfl, ?_⟩))))))⟩))
  refine Zhe (x := .ref r) (.own W.T W.nT) (by (exact Int.natCast_nonneg _)) (by (exact Int.natCast_nonneg _)) (by rw [List.length_map]; lia) (by rw [List.length_map, show (-1 + (rs.length : Int)).toNat = k from by lia, List.getElem?_map, hr]; rfl) ?_
  refine Zab (Zaa t3 (Zae (Zpk G hh hu hroom (.own vr vr2.1) (by lia) m0 (by lia) fun hp1 a b c ha hb hc haL hbL hcL e1 e2 e3 kp hL1 => ?_)))
  refine Zb5 hh rfl rfl rfl (Zan (Zak (Zan (Zak (Zan (Zak (Zaq ?_)))))))
  try dsimp only
  generalize hmx : upd (upd (upd m _ _) _ _) _ _ = m2
  have s1 : m2 (S "texts") = some (.ref aTs) := by subst hmx; (first | assumption | rfl)
  have s2 : m2 (S "lost") = some (.ref aLs) := by subst hmx; (first | assumption | rfl)
  have s3 : m2 (S "made") = some (.int (verT xs k).2) := by subst hmx; (first | assumption | rfl)
  have s4 : m2 (S "text") = some (.ref a) := by subst hmx; (first | assumption | rfl)
  have s5 : m2 (S "there") = some (.ref b) := by subst hmx; (first | assumption | rfl)
  have s6 : m2 (S "back") = some (.ref c) := by subst hmx; (first | assumption | rfl)
  clear hmx t1 t2 t3 t4
  have W1 : LA xs k L aTs aLs rs bc hp1 := W.move fun z ys e hz => kp z _ hz e
  refine Zac ?_
  refine Za3 (Zba (Zaa s1 ⟨aTs, _, rfl, W1.T, W.nT, Zab (Zaa s4 (Zae ⟨_, _, rfl, W1.T, by rw [List.length_map]; exact sz' (by lia), ?_⟩))⟩))
  refine ⟨by simp, by simp, by simp, ?_⟩
  have haT : a ≠ aTs := fun e => by rw [e, W.T] at ha; cases ha
  have haD : a ≠ aLs := fun e => by rw [e, W.D] at ha; cases ha
  have hbT : b ≠ aTs := fun e => by rw [e, W.T] at hb; cases hb
  have hbD : b ≠ aLs := fun e => by rw [e, W.D] at hb; cases hb
  have hcT : c ≠ aTs := fun e => by rw [e, W.T] at hc; cases hc
  have hcD : c ≠ aLs := fun e => by rw [e, W.D] at hc; cases hc
  have hna : a ∉ rs := fun hm => by
    obtain ⟨i, hi, hie⟩ := List.getElem_of_mem hm
    have := (W.vr i a (by rw [List.getElem?_eq_getElem hi, hie])).1
    rw [ha] at this; cases this
  refine Zac ?_
  refine Za3 (Zba (Zaa s2 ⟨aLs, _, rfl, (Hp.snt (Ne.symm W.ne) W1.D), W.nD, Zab (Zap (Zab (Zaa s5 (Zab (Zaa s6 (Zae ⟨sz rfl, Zae ⟨_, _, rfl, (Hp.snt (Ne.symm W.ne) W1.D), by rw [List.length_map]; exact sz' (by lia), ?_⟩⟩))))))⟩))
  refine ⟨by simp, by simp, by simp, ?_⟩
  have kp2 : ∀ z o, z ≠ aTs → z ≠ aLs → hp1 z = some o → ((hp1.set aTs (.list (rs.map .ref ++ [.ref a]))).set aLs (.list (bc.map dAV ++ [.tup [.ref b, .ref c]]))) z = some o := fun z o z1 z2 e => Hp.snt z2 (Hp.snt z1 e)
  have W2 : LA xs (k + 1) L aTs aLs (rs ++ [a]) (bc ++ [(b, c)]) ((hp1.set aTs (.list (rs.map .ref ++ [.ref a]))).set aLs (.list (bc.map dAV ++ [.tup [.ref b, .ref c]]))) :=
    W1.snoc kp2 (by rw [Hp.sn _ _ W.ne, Hp.ss]; simp) (by rw [Hp.ss]; simp [dAV]) hna e1 e2 e3 ⟨haL, haT, haD⟩ ⟨hbL, hbT, hbD⟩ ⟨hcL, hcT, hcD⟩
  have ea := kp2 _ _ haT haD e1
  generalize (hp1.set aTs (.list (rs.map .ref ++ [.ref a]))).set aLs (.list (bc.map dAV ++ [.tup [.ref b, .ref c]])) = hp2 at kp2 W2 ea ⊢
  refine Zac ?_
  refine Zao (Za1 (Zay G (Zpz W0) Zo3 (by decide) (fun _ => Zct) ⟨rfl, Zab (Zah (Zbq (Zab (Zaa s3 (Zae ⟨sz rfl, fun f hf hfL => ?_⟩)))))⟩))
  have lf : Hp.Le hp2 (hp2.set f (.list [.int (verT xs k).2])) := (Hp.Le.refl _).set hf _
  have nl : (verT xs (k + 1)).1 = (Zdi (xs.getD k 0) (verT xs k).1 (verT xs k).2).1 := rfl
  have nm : (verT xs (k + 1)).2 = mxF (verT xs k).2 (verT xs (k + 1)).1 := rfl
  rw [← nl] at ea
  generalize (verT xs (k + 1)).1 = tx at ea nm ml'
  refine Zg1 (e := fun v => match v with | .int i => .int (i + 1) | v => v) (cl := []) hh rfl (by decide) (by decide) (fun _ => rfl) (Zaa s4 ⟨a, _, rfl, .own (lf _ _ ea) haL, by rw [List.length_map]; lia, fun C m₂ hp₃ v hv hC hCL hle3 hm₂ => ?_, fun g hg hgL => ?_⟩)
  · refine hide fun Gq kq => ?_
    obtain ⟨i, -, rfl⟩ := List.mem_map.mp hv
    refine kq ?_; clear kq Gq
    exact Zah (Zaa hm₂ (Zaj (Zat ⟨rfl, .refl _⟩)))
  · have hfg : f ≠ g := Hp.ne_of (Hp.ss ..) hg
    have lg := lf.set (lf.none hg) (.list ((iL tx).map fun v => match v with | .int i => .int (i + 1) | v => v))
    have em : (iL tx).map (fun v => match v with | AV.int i => AV.int (i + 1) | v => v) = iL (tx.map (· + 1)) := by unfold iL; rw [List.map_map, List.map_map]; rfl
    rw [em] at lg ⊢
    refine Zle (xs := [.int (verT xs k).2]) (Hp.snt hfg (Hp.ss ..)) hfL (Hp.ss ..) hgL (by rw [List.length_map, List.length_map]; exact sz' (by simp; lia)) fun q hq hqL => ?_
    have lq := lg.set (lg.none hq) (.list ([.int (verT xs k).2] ++ iL (tx.map (· + 1))))
    refine Zae (Zpf (ns := (verT xs k).2 :: tx.map (· + 1)) hh (.own (Hp.ss ..) hqL) (by simp) fun v hv hmx => ?_)
    have hv2 : v = (verT xs (k + 1)).2 := by
      obtain ⟨a1, a2, a3⟩ := Zfh tx (verT xs k).2
      rw [nm]
      have b1 := hmx _ (.head _)
      have b2 : ∀ l ∈ tx, l + 1 ≤ v := fun l hl => hmx _ (.tail _ (List.mem_map.mpr ⟨l, hl, rfl⟩))
      have b3 : v ≤ mxF (verT xs k).2 tx := by
        rcases List.mem_cons.mp hv with e | e
        · lia
        · obtain ⟨l, hl, rfl⟩ := List.mem_map.mp e
          exact a2 l hl
      rcases a3 with a3 | ⟨l, hl, a3⟩
      · lia
      · have := b2 l hl; lia
    subst hv2
    refine Zag (h _ _ _ _ (W2.move fun z ys e _ => lq _ _ e) (by first | assumption | rfl) (by first | assumption | rfl) (by first | assumption | rfl) fun z o z1 z2 zL e => lq _ _ (kp2 _ _ z1 z2 (kp _ _ zL e)))
end
section
variable {A : Around} {E : Value → Shared → Prop} {env : Env} {m : Loc} {hp : Hp} {K : Frag}
theorem Zeo {y : PySem.Str} {py spos : Pos} {elt iter : Expr} {x : PySem.Str} {tpos} {scope : Scope} {pos : Pos} {cl : List (PySem.Str × Addr)} {e : AV → AV} {Q : AF → Loc → Hp → Prop} (hh : A.handled = none) (hclos : closureFor scope env = pure cl) (hcell : ∀ y ∈ scope.names, y.2 ≠ .cell) (hnames : ∀ x ∈ scope.names, x.2 = .local → scope.names.lookup x.1 = some .local)
    (hx : ∀ C, (compEnvC scope cl C env).kindOf x = some .local)
    (h : EV (model PW W0) B0 E A env iter m hp (CLP PW W0 A B0 env m x elt scope cl e fun acc hp' => Q .next (upd m y (.ref acc)) hp'))
    (hs : ∀ x, foldedSetIterable iter env x = pure x := by intro _; rfl) (hkind : scope.kind = .function := by rfl) (hsw : swapsWith (.ListComp elt [⟨.Name x tpos, iter, [], 0⟩] scope pos) (some (.Name y py)) spos.line env = pure true := by rfl) (hly : env.kindOf y = some .local := by rfl)
    (hky : (env.scope.kind == .class || (env.scope.kind == .module && env.locals != env.globals)) = false := by rfl) :
    EX (model PW W0) B0 E A env (.Assign [.Name y py] (.ListComp elt [⟨.Name x tpos, iter, [], 0⟩] scope pos) spos) m hp Q := fun s r => by
  rw [exec_Assign_Name_used _ _ _ _ hsw]
  refine wpAny_bind (wpAny_standAt (wpAny_bind ?_))
  show wpAny _ _ (comprehension (.ListComp elt [⟨.Name x tpos, iter, [], 0⟩] scope pos) scope env (firstIterPos [⟨.Name x tpos, iter, [], 0⟩] pos) (newList []) false (eval iter env) (some (assign (.Name y py) env)) >>= fun _ => pure ()) _ _ _
  exact wpAny_bind (wpAny_comprehension_free (use := some (assign (.Name y py) env)) rfl hs hclos hkind hnames (h.use r fun u s₁ o hp₁ r₁ le₁ hu z => Ze6 hh hcell hkind hx r₁ le₁ hu (Zf3 hly hky) z))
end
theorem JD.moveC {hp hp' : Hp} {L L' d : Addr} {J : Int → List Nat} (R : JD hp L d J) (h : ∀ z o, hp z = some o → (∀ m, o ≠ .ns m) → (∀ v, o ≠ .cell v) → z ≠ L → hp' z = some o ∧ z ≠ L') : JD hp' L' d J := by
  obtain ⟨kvs, h1, h2, h3, h4⟩ := R.ex
  have x := h _ _ h1 (by simp) (by simp) h2
  refine ⟨kvs, x.1, x.2, h3, fun k v hk => ?_⟩
  obtain ⟨a, e, ha, haL⟩ := h4 k v hk
  have y := h _ _ ha (by simp) (by simp) haL
  exact ⟨a, e, y.1, y.2⟩
theorem MT.moveC {hp hp' : Hp} {L L' x dx : Addr} {a b : AV} {bs : List Int} {aj : Bool} {mb op : AV} (M : MT hp L x dx a b bs aj mb op) (h : ∀ z o, hp z = some o → (∀ m, o ≠ .ns m) → (∀ v, o ≠ .cell v) → z ≠ L → hp' z = some o ∧ z ≠ L') : MT hp' L' x dx a b bs aj mb op := by
  refine hide fun Gq kq => ?_
  obtain ⟨ma, d, j, I, F, R, hj, hjL⟩ := M.ex
  refine kq ?_; clear kq Gq
  have x1 := h _ _ I.ob (by simp) (by simp) I.xL
  have x2 := h _ _ I.at_ (by simp) (by simp) I.dL
  have x3 := h _ _ hj (by simp) (by simp) hjL
  exact ⟨ma, d, j, ⟨x1.1, x2.1, x1.2, x2.2⟩, F, R.moveC h, x3.1, x3.2⟩
noncomputable def whoF (a notes drop : List Int) : List (Int × AV) := dofs (fun i => !drop.contains (a.getD i 0)) (fun i => a.getD i 0) (fun i => .int (notes.getD i 0)) a.length
noncomputable def dueF (a notes b drop : List Int) (now : Int) : List Int := b.map fun l => match dget (whoF a notes drop) l with | some (.int x) => x | _ => now
structure StepOK (a b drop : List Int) : Prop where
  la : a.length ≤ 900
  lb : b.length ≤ 900
  nd : b.Nodup
  raw : (rawB (flmW a b true) a.length b.length).length < 64
  res : (mbF (flmW a b true) a.length b.length).length ≤ 200
  ok : ∀ (notes : List Int) (now : Int), notes.length = a.length → ∀ k o, (codesF a b true)[k]? = some o → OKop a b (stR notes now (codesF a b true) k) o
  e1 : ∀ (notes : List Int) (now : Int), notes.length = a.length → (stR notes now (codesF a b true) (codesF a b true).length).2.1 = a.length
  e2 : ∀ (notes : List Int) (now : Int), notes.length = a.length → (stR notes now (codesF a b true) (codesF a b true).length).2.2.1 = b.length
  told : ∀ (notes : List Int) (now : Int), notes.length = a.length → (stR notes now (codesF a b true) (codesF a b true).length).2.2.2 = dueF a notes b drop now
theorem Zl1 {a notes drop : List Int} {l : Int} {y : AV} (e : dget (whoF a notes drop) l = some y) : ∃ z, y = .int z := by
  unfold whoF at e
  generalize a.length = n at e
  induction n with
  | zero => cases (show (none : Option AV) = some y from e)
  | succ n ih =>
    rw [dofs_s] at e
    split at e
    · rw [dget_dput] at e
      split at e
      · cases e; exact ⟨_, rfl⟩
      · exact ih e
    · exact ih e
noncomputable abbrev lI (i : Nat) : Stmt := (kids ((kids (lS 3)).getD 3 (.Pass default))).getD i (.Pass default)
structure IT (hb : Hp) (L aT aL aR aD xm dx : Addr) (wy : Nat) (aN : Addr) (N : List Int) (av bv : AV) (m : Loc) (hp : Hp) : Prop where
  r : m (S "row") = some (.ref aR)
  d : m (S "drops") = some (.ref aD)
  w : m (S "way") = some (.int wy)
  x : m (S "matcher") = some (.ref xm)
  t : m (S "texts") = some (.ref aT)
  l : m (S "lost") = some (.ref aL)
  le : Hp.Le hb hp
  c1 : hp (L + 1) = some (.cell (some (.ref aN)))
  N : hp aN = some (.list (iL N))
  nN : aN ≠ L
  c3 : ∃ v, hp (L + 3) = some (.cell v)
  c4 : ∃ v, hp (L + 4) = some (.cell v)
  c5 : ∃ v, hp (L + 5) = some (.cell v)
  M : ∃ bs mb op, MT hp L xm dx av bv bs true mb op
theorem Zfo {bs : List Int} (nd : bs.Nodup) (k : Int) : (idxN bs k).length ≤ 1 := by
  have h : (idxN bs k).Pairwise (· < ·) := List.Pairwise.filter _ List.pairwise_lt_range
  match hq : idxN bs k, h with
  | [], _ => simp
  | [_], _ => simp
  | p :: q :: r, h =>
    have m1 : p ∈ idxN bs k := by rw [hq]; exact .head _
    have m2 : q ∈ idxN bs k := by rw [hq]; exact .tail _ (.head _)
    simp only [idxN, List.mem_filter, List.mem_range, beq_iff_eq] at m1 m2
    have hpq : p < q := (List.pairwise_cons.mp h).1 q (.head _)
    have := (List.pairwise_iff_getElem.mp nd) p q m1.1 m2.1 hpq
    rw [List.getElem?_eq_getElem m1.1] at m1
    rw [List.getElem?_eq_getElem m2.1] at m2
    have a := Option.some.inj m1.2
    have b := Option.some.inj m2.2
    exact absurd (a.trans b.symm) this
noncomputable def dueE (a N drop : List Int) (i : Int) : AV → AV
  | .int l => (dget (whoF a N drop) l).getD (.int i)
  | v => v
theorem Zmy {a N b drop : List Int} {i : Int} : (iL b).map (dueE a N drop i) = iL (dueF a N b drop i) := by
  unfold dueF iL
  rw [List.map_map, List.map_map]
  apply List.map_congr_left
  intro l _
  show (dget (whoF a N drop) l).getD (.int i) = AV.int (match dget (whoF a N drop) l with | some (.int x) => x | _ => i)
  cases hg : dget (whoF a N drop) l with
  | none => rfl
  | some y => obtain ⟨z, rfl⟩ := Zl1 hg; rfl
section
variable {A : Around} {m : Loc} {hp hb : Hp} {L aT aL aR aD x dx aN : Addr} {wy i : Nat} {N a b drop : List Int} {av bv : AV} {rws : List Addr} {ds : List (Addr × Addr)} {ro rn : Addr} {pd : Addr × Addr} {P : AF → Loc → Hp → Prop}
theorem Zod {Q : AV → Hp → Prop} {value slice : Expr} (hwy : wy = 0 ∨ wy = 1) (q : Q (.ref (if wy = 0 then pd.1 else pd.2)) hp) (hs : ∀ t u, subscripted slice false (.ref t) (.int wy u) = operate [.ref t, .int wy u] (getItem (.ref t) (.int wy u))) : SUB (model PW W0) B0 (fun _ _ => False) A (lEnv L) value slice m (dAV pd) (.int wy) hp Q := by
  rcases hwy with rfl | rfl
  · exact Zk9 (j := 0) (x := .ref pd.1) (by (exact Int.natCast_nonneg _)) (by (exact Int.natCast_nonneg _)) rfl rfl (by simpa using q) hs
  · exact Zk9 (j := 1) (x := .ref pd.2) (by (exact Int.natCast_nonneg _)) (by (exact Int.natCast_nonneg _)) rfl rfl (by simpa using q) hs
theorem Zix (G : Gnd (KW W0) B0) (hh : A.handled = none) (hu : A.units + 80 < cLine) (hroom : A.depth + 7 < recursionLimit) (hbc : ∀ j, 1 ≤ j → j ≤ 5 → hb (L + j) = none) (hbd : hb dx = none) (hbL : hb L = none)
    (hR : hb aR = some (.list (rws.map .ref))) (hRL : aR ≠ L) (hD : hb aD = some (.list (ds.map dAV))) (hDL : aD ≠ L) (h1 : rws[i]? = some ro) (h2 : rws[i + 1]? = some rn) (h3 : ds[i]? = some pd) (hwy : wy = 0 ∨ wy = 1)
    (o1 : hb ro = some (.list (iL a))) (o1L : ro ≠ L) (o2 : hb rn = some (.list (iL b))) (o2L : rn ≠ L) (o3 : hb (if wy = 0 then pd.1 else pd.2) = some (.list (iL drop))) (o3L : (if wy = 0 then pd.1 else pd.2) ≠ L) (hi : i < 1000)
    (K : StepOK a b drop) (T : IT hb L aT aL aR aD x dx wy aN N av bv m hp) (hN : N.length = a.length) (c2 : hp (L + 2) = some (.cell (some (.int (1 + i)))))
    (n1 : NotIs B0 hb L (.ref ro) av) (n2 : NotIs B0 hb L (.ref rn) bv) {it : Addr} {ob : Obj} (hit : hp it = some (.obj ob)) (hbi : hb it = none) (hitL : it ≠ L) (hitx : it ≠ dx)
    (h : ∀ m' hp' aN', IT hb L aT aL aR aD x dx wy aN' (dueF a N b drop (1 + i)) (.ref ro) (.ref rn) m' hp' → (∃ v, hp' (L + 2) = some (.cell v)) → hp' it = some (.obj ob) → P .next m' hp') :
    EXs (model PW W0) B0 (fun _ _ => False) A (lEnv L) [lI 0, lI 1, lI 2, lI 3, lI 4, lI 5, lI 6] m hp P := by
  refine hide fun Gq kq => ?_
  have f1 : L + 1 ≠ L := by simp
  have f2 : L + 2 ≠ L := by simp
  have f3 : L + 3 ≠ L := by simp
  have f4 : L + 4 ≠ L := by simp
  have f5 : L + 5 ≠ L := by simp
  obtain ⟨v3, c3⟩ := T.c3
  obtain ⟨v4, c4⟩ := T.c4
  obtain ⟨v5, c5⟩ := T.c5
  refine kq ?_; clear kq Gq
  have c1 := T.c1
  have le := T.le
  have tr := T.r
  have td := T.d
  have tw := T.w
  have tx := T.x
  have tt := T.t
  have tl := T.l
  refine Zac ?_
  refine Zcz (Zap (Zab (Zam (Zaa tr (Zah (Zax (c := L + 2) rfl c2 f2 (Zaj (Zb2 ?_))))))))
  have s1 : (rws.map AV.ref)[((1 : Int) + i - 1).toNat]? = some (.ref ro) := by rw [show ((1 : Int) + i - 1).toNat = i from by lia, List.getElem?_map, h1]; rfl
  have s2 : (rws.map AV.ref)[((1 : Int) + i).toNat]? = some (.ref rn) := by rw [show ((1 : Int) + i).toNat = i + 1 from by (exact Nat.add_comm ..), List.getElem?_map, h2]; rfl
  have s3 : (ds.map dAV)[((1 : Int) + i - 1).toNat]? = some (dAV pd) := by rw [show ((1 : Int) + i - 1).toNat = i from by lia, List.getElem?_map, h3]; rfl
  refine Zaw (.own (le _ _ hR) hRL) (by lia) (by lia) s1 ?_
  refine Zab (Zam (Zaa tr (Zax (c := L + 2) rfl c2 f2 (Zaw (.own (le _ _ hR) hRL) (by (exact Int.natCast_nonneg _)) (by lia) s2 ?_))))
  refine Zab (Zam (Zam (Zaa td (Zah (Zax (c := L + 2) rfl c2 f2 (Zaj (Zb2 (Zaw (.own (le _ _ hD) hDL) (by lia) (by lia) s3 (Zaa tw ?_)))))))))
  refine Zod hwy ?_ (by intro _ _; with_unfolding_all rfl)
  generalize (if wy = 0 then pd.1 else pd.2) = rd at o3 o3L
  clear s1 s2 s3
  have hb3 := hbc 3 (by decide) (by decide)
  have hb4 := hbc 4 (by decide) (by decide)
  have hb5 := hbc 5 (by decide) (by decide)
  have hb1 := hbc 1 (by decide) (by decide)
  have hb2 := hbc 2 (by decide) (by decide)
  refine Zae ⟨sz rfl, Zb5 hh rfl rfl rfl (Zan (Zf0 (c := L + 3) rfl c3 f3 (Zan (Zak (Zan (Zf0 (c := L + 4) rfl (v₀ := v4) ?_ f4 (Zaq ?_)))))))⟩
  · exact Hp.snt (by simp) c4
  refine hide fun Gq kq => ?_
  obtain ⟨bs0, mb0, op0, M0⟩ := T.M
  refine kq ?_; clear kq Gq
  have k0 : ∀ z o, hp z = some o → (∀ v, o ≠ .cell v) → ((hp.set (L + 3) (.cell (some (.ref ro)))).set (L + 4) (.cell (some (.ref rd)))) z = some o := fun z o e hv => by
    exact Hp.snt (fun h => by rw [h, c4] at e; cases e; exact hv _ rfl) (Hp.snt (fun h => by rw [h, c3] at e; cases e; exact hv _ rfl) e)
  have M1 := M0.moveC (L' := L) fun z o e _ hv hz => ⟨k0 z o e hv, hz⟩
  have N1 := k0 _ _ T.N (by simp)
  have it1 := k0 _ _ hit (by simp)
  have le1 : Hp.Le hb ((hp.set (L + 3) (.cell (some (.ref ro)))).set (L + 4) (.cell (some (.ref rd)))) := (le.set hb3 _).set hb4 _
  have d1 : ((hp.set (L + 3) (.cell (some (.ref ro)))).set (L + 4) (.cell (some (.ref rd)))) (L + 1) = some (.cell (some (.ref aN))) := Hp.snt (by simp) (Hp.snt (by simp) c1)
  have d2 : ((hp.set (L + 3) (.cell (some (.ref ro)))).set (L + 4) (.cell (some (.ref rd)))) (L + 2) = some (.cell (some (.int (1 + i)))) := Hp.snt (by simp) (Hp.snt (by simp) c2)
  have d3 : ((hp.set (L + 3) (.cell (some (.ref ro)))).set (L + 4) (.cell (some (.ref rd)))) (L + 3) = some (.cell (some (.ref ro))) := Hp.snt (by simp) (Hp.ss ..)
  have d4 : ((hp.set (L + 3) (.cell (some (.ref ro)))).set (L + 4) (.cell (some (.ref rd)))) (L + 4) = some (.cell (some (.ref rd))) := Hp.ss ..
  have d5 : ((hp.set (L + 3) (.cell (some (.ref ro)))).set (L + 4) (.cell (some (.ref rd)))) (L + 5) = some (.cell v5) := Hp.snt (by simp) (Hp.snt (by simp) c5)
  have hNd : aN ≠ dx := fun e => by obtain ⟨ma, d', j', I', _⟩ := M0.ex; have := T.N; rw [e, I'.at_] at this; cases this
  have hcd : ∀ j, (∃ v, hp (L + j) = some (.cell v)) → L + j ≠ dx := fun j ⟨v, e⟩ h => by obtain ⟨ma, d', j', I', _⟩ := M0.ex; rw [h, I'.at_] at e; cases e
  have nN := T.nN
  generalize (hp.set (L + 3) (.cell (some (.ref ro)))).set (L + 4) (.cell (some (.ref rd))) = hp1 at M1 N1 it1 le1 d1 d2 d3 d4 d5 ⊢
  try dsimp only
  generalize hmx : upd m _ _ = m1
  have p1 : m1 (S "row") = some (.ref aR) := by subst hmx; (first | assumption | rfl)
  have p2 : m1 (S "drops") = some (.ref aD) := by subst hmx; (first | assumption | rfl)
  have p3 : m1 (S "way") = some (.int wy) := by subst hmx; (first | assumption | rfl)
  have p4 : m1 (S "matcher") = some (.ref x) := by subst hmx; (first | assumption | rfl)
  have p5 : m1 (S "new") = some (.ref rn) := by subst hmx; (first | assumption | rfl)
  have p6 : m1 (S "texts") = some (.ref aT) := by subst hmx; (first | assumption | rfl)
  have p7 : m1 (S "lost") = some (.ref aL) := by subst hmx; (first | assumption | rfl)
  clear hmx tr td tw tx tt tl k0 M0
  refine Zac ?_
  refine hide fun Gq kq => ?_
  obtain ⟨ma, d', j', I1, F1, -, -, -⟩ := M1.ex
  refine kq ?_; clear kq Gq
  have lk : ∀ {hp' : Hp} {r : Addr} {xs : List Int}, Hp.Le hb hp' → hb r = some (.list (iL xs)) → r ≠ L → Lst B0 hp' L r (iL xs) := fun l e z => .own (l _ _ e) z
  have nle : ∀ {nv av : AV} {hp' : Hp}, NotIs B0 hb L nv av → Hp.Le hb hp' → NotIs B0 hp' L nv av := fun n l => by
    rcases n with e | ⟨z, e, o⟩
    · exact .inl e
    · refine .inr ⟨z, e, ?_⟩
      rcases o with e | e | ⟨b, xs, ys, e, h1, h2, h3⟩
      · exact .inl e
      · exact .inr (.inl e)
      · exact .inr (.inr ⟨b, xs, ys, e, h1.le l, h2.le l, h3⟩)
  have hpop : true = false ∨ b.length < 200 ∨ ∀ k, (idxN b k).length ≤ b.length / 100 + 1 := .inr (.inr fun k => Nat.le_trans (Zfo K.nd k) (by (exact Nat.succ_pos _)))
  refine Za3 (Zep G (clsS W0) (f := 167) (by kernel_rfl) (by kernel_rfl) (by kernel_rfl) (Zaa p4 ⟨x, dx, _, rfl, I1, F1.no _ (by decide), Zab (Zax (c := L + 3) rfl d3 f3 (Zab (Zaa p5 (Zae ?_))))⟩))
  refine Zlv (bs := b) G hh (by show A.depth + 2 < _; (exact ul (by assumption) (by decide))) I1 F1.a F1.b (nle n1 le1) (nle n2 le1) (.list (lk le1 o2 o2L)) F1.ij F1.aj F1.no hpop (by have := K.lb; (exact Nat.le_trans (by assumption) (by decide))) fun hp2 M2 kp2 hL2 => ?_
  refine ⟨by simp, by simp, by simp, ?_⟩
  have q : ∀ z o, hp1 z = some o → z ≠ dx → z ≠ L → hp2 z = some o := fun z o e hz hL => kp2 z o hz hL e
  have e3x := hcd 3 ⟨_, c3⟩
  have e1x := hcd 1 ⟨_, c1⟩
  have e2x := hcd 2 ⟨_, c2⟩
  have e4x := hcd 4 ⟨_, c4⟩
  have e5x := hcd 5 ⟨_, c5⟩
  have nbx : ∀ {z : Addr} {o : AO}, hb z = some o → z ≠ dx ∧ z ≠ L := fun {z} {o} e => by
    constructor
    · intro h; rw [h, hbd] at e; cases e
    · intro h; rw [h, hbL] at e; cases e
  have le2 : Hp.Le hb hp2 := fun z o e => q _ _ (le1 _ _ e) (nbx e).1 (nbx e).2
  have N2 := q _ _ N1 hNd nN
  have it2 := q _ _ it1 hitx hitL
  have g1 := q _ _ d1 e1x f1
  have g2 := q _ _ d2 e2x f2
  have g3 := q _ _ d3 e3x f3
  have g4 := q _ _ d4 e4x f4
  have g5 := q _ _ d5 e5x f5
  clear q kp2 d1 d2 d3 d4 d5 N1 it1 M1 I1 F1 le1 hL2 T n1 n2 c1 c2 c3 c4 c5 hit le hcd
  refine Zac ?_
  refine hide fun Gq kq => ?_
  obtain ⟨ma2, d2', j2', I2, F2, -, -, -⟩ := id M2
  refine kq ?_; clear kq Gq
  have hla := K.la
  have hlb := K.lb
  refine Zao (Zim G (Zp9 W0) rfl (Zeq G (Zqf W0) (fun _ => VR_ref) ⟨rfl, Zab (Zfy G (clsS W0) (f := 210) (by kernel_rfl) (by kernel_rfl) (by kernel_rfl) (Zaa p4 ⟨x, dx, _, rfl, I2, F2.no _ (by decide), ?_⟩))⟩))
  refine Zlz (as := a) (bs := b) G hh (by show A.units + 20 < _; (exact ul (by assumption) (by decide))) (by show A.depth + 6 < _; (exact Nat.lt_of_succ_lt (by assumption))) M2 (lk le2 o1 o1L) (lk le2 o2 o2L) (by (exact Nat.le_trans (by assumption) (by decide))) (by (exact Nat.le_trans (by assumption) (by decide))) K.raw K.res fun hp3 rc rb hrc hrcL hr3 M3 kp3 hL3 => ?_
  have le3 : Hp.Le hb hp3 := fun z o e => kp3 _ _ (nbx e).1 (nbx e).2 (le2 _ _ e)
  have N3 := kp3 _ _ hNd nN N2
  have it3 := kp3 _ _ hitx hitL it2
  have k1 := kp3 _ _ e1x f1 g1
  have k2 := kp3 _ _ e2x f2 g2
  have k3 := kp3 _ _ e3x f3 g3
  have k4 := kp3 _ _ e4x f4 g4
  have k5 := kp3 _ _ e5x f5 g5
  clear g1 g2 g3 g4 g5 N2 it2 kp3 M2 I2 F2 le2
  refine Zab (Zax (c := L + 3) rfl k3 f3 (Zab (Zaa p5 (Zab (Zax (c := L + 1) rfl k1 f1 (Zab (Zax (c := L + 2) rfl k2 f2 (Zae ?_))))))))
  refine Zpe (ops := codesF a b true) (old := a) (new := b) (notes := N) G hh (by show A.units + 70 < _; (exact ul (by assumption) (by decide))) (by show A.depth < _; (exact ul0 (by assumption))) (.own hr3 hrcL) (lk le3 o1 o1L) (lk le3 o2 o2L) (.own N3 nN) hla hlb (by lia) (K.ok N _ hN) (K.e1 N _ hN) (K.e2 N _ hN) fun hp4 rd2 hrd hrdL hr4 kp4 hL4 => ?_
  rw [K.told N _ hN] at hr4
  have le4 : Hp.Le hb hp4 := fun z o e => kp4 _ _ (nbx e).2 (le3 _ _ e)
  have N4 := kp4 _ _ nN N3
  have it4 := kp4 _ _ hitL it3
  have g1 := kp4 _ _ f1 k1
  have g2 := kp4 _ _ f2 k2
  have g3 := kp4 _ _ f3 k3
  have g4 := kp4 _ _ f4 k4
  have g5 := kp4 _ _ f5 k5
  have M4 : MT hp4 L x dx (.ref ro) (.ref rn) b true (.ref rb) (.ref rc) := M3.move fun z o e _ hz => ⟨kp4 _ _ hz e, hz⟩
  clear k1 k2 k3 k4 k5 N3 it3 kp4 M3 le3 hL3 hL4 hr3
  try dsimp only
  generalize hmx : upd m1 _ _ = m2
  have r1 : m2 (S "row") = some (.ref aR) := by subst hmx; (first | assumption | rfl)
  have r2 : m2 (S "drops") = some (.ref aD) := by subst hmx; (first | assumption | rfl)
  have r3 : m2 (S "way") = some (.int wy) := by subst hmx; (first | assumption | rfl)
  have r4 : m2 (S "matcher") = some (.ref x) := by subst hmx; (first | assumption | rfl)
  have r5 : m2 (S "new") = some (.ref rn) := by subst hmx; (first | assumption | rfl)
  have r6 : m2 (S "read") = some (.ref rd2) := by subst hmx; (first | assumption | rfl)
  have r7 : m2 (S "texts") = some (.ref aT) := by subst hmx; (first | assumption | rfl)
  have r8 : m2 (S "lost") = some (.ref aL) := by subst hmx; (first | assumption | rfl)
  clear hmx p1 p2 p3 p4 p5 p6 p7
  refine Zac ?_
  refine Zdu (c := L + 5) rfl f5 ?_
  refine Zjk (p := fun i => !drop.contains (a.getD i 0)) (fk := fun i => a.getD i 0) (fv := fun i => .int (N.getD i 0)) (cl := [(S "old", L + 3), (S "notes", L + 1), (S "drop", L + 4)]) hh rfl (by decide) (by decide) (fun _ => rfl) ?_
  refine Zc0 (Zay G (Zcw W0) Zci (by decide) (fun _ => Zdl) ⟨rfl, Zab (Za1 (Zay G (Zbz W0) Zbj (by decide) (fun _ => Zct) ⟨rfl, Zab (Zax (c := L + 3) rfl g3 f3 (Zae (Zcb (lk le4 o1 o1L) (by rw [List.length_map]; exact sz' (by (exact Nat.le_trans (by assumption) (by decide)))) ?_)))⟩))⟩)
  rw [List.length_map]
  refine Zae (Zeu fun rg ob2 hrg hrgL ro2 => ?_)
  have lr : Hp.Le hp4 (hp4.set rg (.obj ob2)) := (Hp.Le.refl _).set hrg _
  refine ⟨rg, ob2, 0, a.length, rfl, Hp.ss .., hrgL, ro2, by decide, by decide, by (exact Int.natCast_nonneg _), by lia, by (exact Nat.le_trans (by assumption) (by decide)), fun C m₂ hp₃ n hn hC hCL hle3 hm₂ => ?_, fun acc hacc haccL => ?_⟩
  · have hn' : n < a.length := by assumption
    have up : ∀ {z : Addr} {o : AO}, hp4 z = some o → z ≠ L → hp₃ z = some o := fun {z} {o} e hz => hle3 _ _ (by rw [show (lEnv L).locals = L from rfl, Hp.sn _ _ hz]; exact lr _ _ e)
    have nC : ∀ {z : Addr} {o : AO}, hp4 z = some o → z ≠ C := fun {z} {o} e => Hp.ne_of (lr _ _ e) hC
    have hm₃ : m₂ (S "i") = some (.int (n : Int)) := by rw [hm₂]; simp
    have sa : (iL a)[((n : Nat) : Int).toNat]? = some (.int (a.getD n 0)) := by rw [Int.toNat_natCast, List.getElem?_map, List.getD_eq_getElem?_getD, List.getElem?_eq_getElem hn']; rfl
    have sN : (iL N)[((n : Nat) : Int).toNat]? = some (.int (N.getD n 0)) := by rw [Int.toNat_natCast, List.getElem?_map, List.getD_eq_getElem?_getD, List.getElem?_eq_getElem (by lia)]; rfl
    have oa : hp₃ ro = some (.list (iL a)) := up (le4 _ _ o1) o1L
    refine Zif (Zad (Zam (Zax (c := L + 3) rfl (up g3 f3) (nC g3) (Zaa hm₃ (Zaw (.own oa (nC (le4 _ _ o1))) (by (exact Int.natCast_nonneg _)) (by lia) sa ?_)))))
    refine Zax (c := L + 4) rfl (up g4 f4) (nC g4) (Zgn (.own (up (le4 _ _ o3) o3L) (nC (le4 _ _ o3))) (by show A.units + 4 < _; (exact ul (by assumption) (by decide))) (Zaf ⟨rfl, .refl _, fun _ => ?_⟩))
    refine Zam (Zax (c := L + 3) rfl (up g3 f3) (nC g3) (Zaa hm₃ (Zaw (.own oa (nC (le4 _ _ o1))) (by (exact Int.natCast_nonneg _)) (by lia) sa ⟨rfl, .refl _, ?_⟩)))
    exact Zam (Zax (c := L + 1) rfl (up g1 f1) (nC g1) (Zaa hm₃ (Zaw (.own (up N4 nN) (nC N4)) (by (exact Int.natCast_nonneg _)) (by lia) sN ⟨rfl, .refl _⟩)))
  have l5 : Hp.Le hp4 ((hp4.set rg (.obj ob2)).set acc (.dict (whoF a N drop))) := lr.set (lr.none hacc) _
  have a5 : ((hp4.set rg (.obj ob2)).set acc (.dict (whoF a N drop))) acc = some (.dict (whoF a N drop)) := Hp.ss ..
  have ew : dofs (fun i => !drop.contains (a.getD i 0)) (fun i => a.getD i 0) (fun i => AV.int (N.getD i 0)) ((a.length : Int) - 0).toNat = whoF a N drop := by unfold whoF; rw [show ((a.length : Int) - 0).toNat = a.length from by (exact Int.toNat_natCast _)]
  rw [ew]
  have hacL : acc ≠ L := haccL
  have n5a : acc ≠ L + 5 := fun e => by have := lr.none hacc; rw [e, g5] at this; cases this
  generalize (hp4.set rg (.obj ob2)).set acc (.dict (whoF a N drop)) = hp5 at l5 a5 ⊢
  refine ⟨_, l5 _ _ g5, ?_⟩
  have q : ∀ {z : Addr} {o : AO}, hp4 z = some o → (∀ v, o ≠ .cell v) → (hp5.set (L + 5) (.cell (some (.ref acc)))) z = some o := fun {z} {o} e hv => Hp.snt (fun h => by rw [h, g5] at e; cases e; exact hv _ rfl) (l5 _ _ e)
  have le6 : Hp.Le hb (hp5.set (L + 5) (.cell (some (.ref acc)))) := (le4.trans l5).set hb5 _
  have a6 : (hp5.set (L + 5) (.cell (some (.ref acc)))) acc = some (.dict (whoF a N drop)) := Hp.snt n5a a5
  have M6 := M4.moveC (L' := L) fun z o e _ hv hz => ⟨q e hv, hz⟩
  have N6 := q N4 (by simp)
  have it6 := q it4 (by simp)
  have r6' := q hr4 (by simp)
  have w1 : (hp5.set (L + 5) (.cell (some (.ref acc)))) (L + 1) = some (.cell (some (.ref aN))) := Hp.snt (by simp) (l5 _ _ g1)
  have w2 : (hp5.set (L + 5) (.cell (some (.ref acc)))) (L + 2) = some (.cell (some (.int (1 + i)))) := Hp.snt (by simp) (l5 _ _ g2)
  have w3 : (hp5.set (L + 5) (.cell (some (.ref acc)))) (L + 3) = some (.cell (some (.ref ro))) := Hp.snt (by simp) (l5 _ _ g3)
  have w4 : (hp5.set (L + 5) (.cell (some (.ref acc)))) (L + 4) = some (.cell (some (.ref rd))) := Hp.snt (by simp) (l5 _ _ g4)
  have w5 : (hp5.set (L + 5) (.cell (some (.ref acc)))) (L + 5) = some (.cell (some (.ref acc))) := Hp.ss ..
  generalize hp5.set (L + 5) (.cell (some (.ref acc))) = hp6 at le6 a6 M6 N6 it6 r6' w1 w2 w3 w4 w5 ⊢
  clear q l5 a5 g1 g2 g3 g4 g5 N4 it4 hr4 M4 lr
  refine Zac ?_
  have n5x : acc ≠ L := hacL
  refine Zeo (e := dueE a N drop (1 + i)) (cl := [(S "who", L + 5), (S "v", L + 2)]) hh rfl (by decide) (by decide) (fun _ => rfl) (Zaa r5 ⟨rn, _, rfl, lk le6 o2 o2L, by rw [List.length_map]; (exact Nat.le_trans (by assumption) (by decide)), fun C m₂ hp₃ v hv hC hCL hle3 hm₂ => ?_, fun du hdu hduL => ?_⟩)
  · refine hide fun Gq kq => ?_
    obtain ⟨l, -, rfl⟩ := List.mem_map.mp hv
    refine kq ?_; clear kq Gq
    have up : ∀ {z : Addr} {o : AO}, hp6 z = some o → z ≠ L → hp₃ z = some o := fun {z} {o} e hz => hle3 _ _ (by rw [show (lEnv L).locals = L from rfl, Hp.sn _ _ hz]; exact e)
    have nC : ∀ {z : Addr} {o : AO}, hp6 z = some o → z ≠ C := fun {z} {o} e => Hp.ne_of e hC
    refine Zca (Zad (Zaa hm₂ (Zax (c := L + 5) rfl (up w5 f5) (nC w5) (Zqt G (up a6 n5x) (nC a6) (Zaf ?_)))))
    cases hg : dget (whoF a N drop) l with
    | some y =>
      refine iteT rfl (Zam (Zax (c := L + 5) rfl (up w5 f5) (nC w5) (Zaa hm₂ (Zna (up a6 n5x) (nC a6) hg ⟨by show _ = (dget (whoF a N drop) l).getD _; rw [hg]; rfl, .refl _⟩))))
    | none =>
      refine iteF rfl (Zax (c := L + 2) rfl (up w2 f2) (nC w2) ⟨by show _ = (dget (whoF a N drop) l).getD _; rw [hg]; rfl, .refl _⟩)
  rw [Zmy]
  have l7 : Hp.Le hp6 (hp6.set du (.list (iL (dueF a N b drop (1 + i))))) := (Hp.Le.refl _).set hdu _
  have d7 : (hp6.set du (.list (iL (dueF a N b drop (1 + i))))) du = some (.list (iL (dueF a N b drop (1 + i)))) := Hp.ss ..
  generalize hp6.set du (.list (iL (dueF a N b drop (1 + i)))) = hp7 at l7 d7 ⊢
  try dsimp only
  generalize hmx : upd m2 _ _ = m3
  have t1 : m3 (S "row") = some (.ref aR) := by subst hmx; (first | assumption | rfl)
  have t2 : m3 (S "drops") = some (.ref aD) := by subst hmx; (first | assumption | rfl)
  have t3 : m3 (S "way") = some (.int wy) := by subst hmx; (first | assumption | rfl)
  have t4 : m3 (S "matcher") = some (.ref x) := by subst hmx; (first | assumption | rfl)
  have t6 : m3 (S "read") = some (.ref rd2) := by subst hmx; (first | assumption | rfl)
  have t7 : m3 (S "due") = some (.ref du) := by subst hmx; (first | assumption | rfl)
  have t8 : m3 (S "texts") = some (.ref aT) := by subst hmx; (first | assumption | rfl)
  have t9 : m3 (S "lost") = some (.ref aL) := by subst hmx; (first | assumption | rfl)
  clear hmx r1 r2 r3 r4 r5 r6 r7 r8
  refine Zac ?_
  refine Za4 (Zad (Zaa t6 (Zaa t7 ?_)))
  refine Zih (.list (.own (l7 _ _ r6') hrdL) (Zdm _)) (.list (.own d7 hduL) (Zdm _)) (Zck _) (Zck _) (by show A.units + 64 < _; (exact ul (by assumption) (by decide))) (Zaf ?_)
  rw [Zh9, decide_eq_true rfl]
  refine iteF rfl (Zag (Zac ?_))
  refine Zdu (c := L + 1) rfl f1 (Zaa t7 ⟨_, l7 _ _ w1, ?_⟩)
  have ndu : du ≠ L + 1 := fun e => by rw [e, l7 _ _ w1] at d7; cases d7
  have q : ∀ {z : Addr} {o : AO}, hp6 z = some o → (∀ v, o ≠ .cell v) → (hp7.set (L + 1) (.cell (some (.ref du)))) z = some o := fun {z} {o} e hv => Hp.snt (fun h => by rw [h, w1] at e; cases e; exact hv _ rfl) (l7 _ _ e)
  have c9 : ∀ j, j ≠ 1 → ∀ v, hp6 (L + j) = some (.cell v) → (hp7.set (L + 1) (.cell (some (.ref du)))) (L + j) = some (.cell v) := fun j hj v e => Hp.snt (fun h => hj (Nat.add_left_cancel h)) (l7 _ _ e)
  refine Zag (h _ _ du ⟨t1, t2, t3, t4, t8, t9, (le6.trans l7).set hb1 _, Hp.ss .., Hp.snt ndu d7, hduL, ⟨_, c9 3 (by decide) _ w3⟩, ⟨_, c9 4 (by decide) _ w4⟩, ⟨_, c9 5 (by decide) _ w5⟩, ⟨_, _, _, M6.moveC (L' := L) fun z o e _ hv hz => ⟨q e hv, hz⟩⟩⟩ ⟨_, c9 2 (by decide) _ w2⟩ (q it6 (by simp)))
end
noncomputable def inW (W0 : Win) (i j : Int) : Prop := W0.1 ≤ i ∧ i < W0.2.1 ∧ W0.2.2.1 ≤ j ∧ j < W0.2.2.2
noncomputable def Run (M : Int → Int → Prop) (s t n : Int) : Prop := 0 < n ∧ ∀ r, 0 ≤ r → r < n → M (s + r) (t + r)
structure Grd (M K : Int → Int → Prop) : Prop where
  i1 : ∀ {i j j'}, M i j → M i j' → j = j'
  i2 : ∀ {i i' j}, M i j → M i' j → i = i'
  sub : ∀ {i j}, K i j → M i j
  whole : ∀ {i j}, M i j → M (i + 1) (j + 1) → (K i j ↔ K (i + 1) (j + 1))
  mono : ∀ {i j i' j'}, K i j → K i' j' → i < i' → j < j'
  cross : ∀ {s t n}, Run M s t n → ¬ K s t → ∃ s' t' n', Run M s' t' n' ∧ K s' t' ∧ (n < n' ∨ (n' = n ∧ s' < s)) ∧ ((s' < s ∧ t < t') ∨ (s < s' ∧ t' < t))
structure WH (M K : Int → Int → Prop) (W0 : Win) : Prop where
  wh : ∀ {i j}, M i j → M (i + 1) (j + 1) → (inW W0 i j ↔ inW W0 (i + 1) (j + 1))
  kin : ∀ {i j}, K i j → inW W0 i j ∨ (i < W0.1 ∧ j < W0.2.2.1) ∨ (W0.2.1 ≤ i ∧ W0.2.2.2 ≤ j)
section
variable {M K : Int → Int → Prop}
theorem Run.first {s t n : Int} (h : Run M s t n) : M s t := by
  have := h.2 0 (by (exact Int.natCast_nonneg _)) h.1
  rwa [Int.add_zero, Int.add_zero] at this
theorem Run.next {s t n r : Int} (h : Run M s t n) (h0 : 0 ≤ r) (h1 : r + 1 < n) : M (s + r) (t + r) ∧ M (s + r + 1) (t + r + 1) := by
  refine ⟨h.2 r h0 (by (exact Int.le_of_lt (by assumption))), ?_⟩
  have := h.2 (r + 1) (by lia) h1
  rwa [← Int.add_assoc, ← Int.add_assoc] at this
theorem Grd.runK (G : Grd M K) {s t n : Int} (h : Run M s t n) (hk : K s t) : ∀ r : Nat, (r : Int) < n → K (s + r) (t + r)
  | 0, _ => by rw [Int.natCast_zero, Int.add_zero, Int.add_zero]; exact hk
  | r + 1, hr => by
    have ih := G.runK h hk r (by (exact Int.le_of_lt (by assumption)))
    obtain ⟨a, b⟩ := h.next (r := r) (by (exact Int.natCast_nonneg _)) (by assumption)
    have := (G.whole a b).mp ih
    rwa [Int.natCast_add, Int.natCast_one, ← Int.add_assoc, ← Int.add_assoc]
theorem WH.run {W0 : Win} (W : WH M K W0) {s t n : Int} (h : Run M s t n) (hk : inW W0 s t) : ∀ r : Nat, (r : Int) < n → inW W0 (s + r) (t + r)
  | 0, _ => by rw [Int.natCast_zero, Int.add_zero, Int.add_zero]; exact hk
  | r + 1, hr => by
    have ih := W.run h hk r (by (exact Int.le_of_lt (by assumption)))
    obtain ⟨a, b⟩ := h.next (r := r) (by (exact Int.natCast_nonneg _)) (by assumption)
    have := (W.wh a b).mp ih
    rwa [Int.natCast_add, Int.natCast_one, ← Int.add_assoc, ← Int.add_assoc]
structure Best1 (M K : Int → Int → Prop) (W0 : Win) (b : Tri) : Prop where
  run : Run M b.1 b.2.1 b.2.2
  inn : inW W0 b.1 b.2.1
  kk : ∀ r, 0 ≤ r → r < b.2.2 → K (b.1 + r) (b.2.1 + r)
  lo : ¬ M (b.1 - 1) (b.2.1 - 1)
  hi : ¬ M (b.1 + b.2.2) (b.2.1 + b.2.2)
theorem Zr6 (G : Grd M K) {W0 : Win} (W : WH M K W0) {b : Tri} (L : Longest M W0.1 W0.2.1 W0.2.2.1 W0.2.2.2 b) (h0 : 0 < b.2.2) : Best1 M K W0 b := by
  have c := L.com h0
  have R : Run M b.1 b.2.1 b.2.2 := ⟨h0, c.eq⟩
  have := c.a0; have := c.a1; have := c.b0; have := c.b1
  have hin : inW W0 b.1 b.2.1 := ⟨by omega, by lia, by omega, by lia⟩
  have hk : K b.1 b.2.1 := by
    refine Classical.byContradiction fun hn => ?_
    obtain ⟨s, t, n, R', k', hp, hc⟩ := G.cross R hn
    have hw : inW W0 s t := by
      rcases W.kin k' with x | ⟨x, y⟩ | ⟨x, y⟩
      · exact x
      · exfalso; lia
      · exfalso; lia
    have hn0 := R'.1
    have hl := W.run R' hw (n - 1).toNat (by lia)
    have e : ((n - 1).toNat : Int) = n - 1 := by lia
    rw [e] at hl
    have := hl.2.1; have := hl.2.2.2; have := hw.1; have := hw.2.2.1
    have := L.max s t n ⟨by omega, by lia, by omega, by lia, by (exact Int.le_of_lt (by assumption)), R'.2⟩
    lia
  refine ⟨R, hin, fun r hr0 hr1 => ?_, fun hm => ?_, fun hm => ?_⟩
  · have := G.runK R hk r.toNat (by lia)
    rwa [show (r.toNat : Int) = r from by (exact Ziq (by assumption))] at this
  · have hm1 : M (b.1 - 1 + 1) (b.2.1 - 1 + 1) := by rw [Int.sub_add_cancel, Int.sub_add_cancel]; exact R.first
    have hi := (W.wh hm hm1).mpr (by rw [Int.sub_add_cancel, Int.sub_add_cancel]; exact hin)
    have := hi.1; have := hi.2.2.1
    have := (L.max (b.1 - 1) (b.2.1 - 1) (b.2.2 + 1) ⟨by omega, by lia, by omega, by lia, by lia, fun t ht0 ht1 => ?_⟩).1
    · lia
    · by_cases ht : t = 0
      · subst ht; rw [Int.add_zero, Int.add_zero]; exact hm
      · have := R.2 (t - 1) (by lia) (by lia)
        rwa [show b.1 + (t - 1) = b.1 - 1 + t from by lia, show b.2.1 + (t - 1) = b.2.1 - 1 + t from by lia] at this
  · have hm1 : M (b.1 + (b.2.2 - 1)) (b.2.1 + (b.2.2 - 1)) := R.2 _ (by lia) (by lia)
    have hm' : M (b.1 + (b.2.2 - 1) + 1) (b.2.1 + (b.2.2 - 1) + 1) := by rwa [show b.1 + (b.2.2 - 1) + 1 = b.1 + b.2.2 from by lia, show b.2.1 + (b.2.2 - 1) + 1 = b.2.1 + b.2.2 from by lia]
    have hi := (W.wh hm1 hm').mp ⟨by lia, by omega, by lia, by lia⟩
    have := hi.2.1; have := hi.2.2.2
    have := (L.max b.1 b.2.1 (b.2.2 + 1) ⟨by omega, by lia, by omega, by lia, by lia, fun t ht0 ht1 => ?_⟩).1
    · lia
    · by_cases ht : t = b.2.2
      · subst ht; exact hm
      · exact R.2 t ht0 (by lia)
theorem Zr7 {W0 : Win} {b : Tri} (L : Longest M W0.1 W0.2.1 W0.2.2.1 W0.2.2.2 b) (h0 : b.2.2 = 0) {i j : Int} (hi : inW W0 i j) : ¬ M i j := fun hm => by
  obtain ⟨h1, h2, h3, h4⟩ := hi
  have := (L.max i j 1 ⟨h1, by assumption, h3, by assumption, by (exact Int.natCast_nonneg _), fun t ht0 ht1 => ?_⟩).1
  · lia
  · have : t = 0 := by lia
    subst this; rw [Int.add_zero, Int.add_zero]; exact hm
theorem WH.left (G : Grd M K) {W0 : Win} (W : WH M K W0) {b : Tri} (B0 : Best1 M K W0 b) : WH M K (W0.1, b.1, W0.2.2.1, b.2.1) := by
  have hb := B0.inn
  obtain ⟨b1, b2, b3, b4⟩ := hb
  have hk := B0.kk 0 (by (exact Int.natCast_nonneg _)) B0.run.1
  rw [Int.add_zero, Int.add_zero] at hk
  refine ⟨fun {i j} h1 h2 => ⟨fun hi => ?_, fun hi => ?_⟩, fun {i j} h => ?_⟩
  · obtain ⟨a1, a2, a3, a4⟩ := hi
    dsimp only at a1 a2 a3 a4
    have x : inW W0 (i + 1) (j + 1) := (W.wh h1 h2).mp ⟨a1, by (exact Int.lt_trans (by assumption) (by assumption)), a3, by (exact Int.lt_trans (by assumption) (by assumption))⟩
    refine ⟨x.1, ?_, x.2.2.1, ?_⟩
    · show i + 1 < b.1
      by_cases e : i + 1 = b.1
      · rw [e] at h2
        have := G.i1 h2 B0.run.first
        exact absurd h1 (by rw [show i = b.1 - 1 from by lia, show j = b.2.1 - 1 from by lia]; exact B0.lo)
      · lia
    · show j + 1 < b.2.1
      by_cases e : j + 1 = b.2.1
      · rw [e] at h2
        have := G.i2 h2 B0.run.first
        exact absurd h1 (by rw [show i = b.1 - 1 from by lia, show j = b.2.1 - 1 from by lia]; exact B0.lo)
      · lia
  · obtain ⟨a1, a2, a3, a4⟩ := hi
    dsimp only at a1 a2 a3 a4
    have x : inW W0 i j := (W.wh h1 h2).mpr ⟨a1, by (exact Int.lt_trans (by assumption) (by assumption)), a3, by (exact Int.lt_trans (by assumption) (by assumption))⟩
    exact ⟨x.1, by show i < b.1; (exact Int.le_of_lt (by assumption)), x.2.2.1, by show j < b.2.1; (exact Int.le_of_lt (by assumption))⟩
  · rcases W.kin h with x | x | x
    · obtain ⟨x1, x2, x3, x4⟩ := x
      by_cases hlt : i < b.1
      · exact .inl ⟨x1, hlt, x3, G.mono h hk hlt⟩
      · refine .inr (.inr ⟨by show b.1 ≤ i; (exact Int.not_lt.mp (by assumption)), ?_⟩)
        show b.2.1 ≤ j
        by_cases e : i = b.1
        · subst e
          have := G.i1 (G.sub h) B0.run.first
          lia
        · exact Int.le_of_lt (G.mono hk h (by lia))
    · exact .inr (.inl x)
    · exact .inr (.inr ⟨by show b.1 ≤ i; lia, by show b.2.1 ≤ j; lia⟩)
theorem WH.right (G : Grd M K) {W0 : Win} (W : WH M K W0) {b : Tri} (B0 : Best1 M K W0 b) : WH M K (b.1 + b.2.2, W0.2.1, b.2.1 + b.2.2, W0.2.2.2) := by
  have hb := B0.inn
  have hn := B0.run.1
  obtain ⟨b1, b2, b3, b4⟩ := hb
  have hk := B0.kk (b.2.2 - 1) (by lia) (by lia)
  have hm := B0.run.2 (b.2.2 - 1) (by lia) (by lia)
  refine ⟨fun {i j} h1 h2 => ⟨fun hi => ?_, fun hi => ?_⟩, fun {i j} h => ?_⟩
  · obtain ⟨a1, a2, a3, a4⟩ := hi
    dsimp only at a1 a2 a3 a4
    have x : inW W0 (i + 1) (j + 1) := (W.wh h1 h2).mp ⟨by lia, a2, by lia, a4⟩
    exact ⟨by show b.1 + b.2.2 ≤ i + 1; lia, x.2.1, by show b.2.1 + b.2.2 ≤ j + 1; lia, x.2.2.2⟩
  · obtain ⟨a1, a2, a3, a4⟩ := hi
    dsimp only at a1 a2 a3 a4
    have x : inW W0 i j := (W.wh h1 h2).mpr ⟨by lia, a2, by lia, a4⟩
    refine ⟨?_, x.2.1, ?_, x.2.2.2⟩
    · show b.1 + b.2.2 ≤ i
      by_cases e : i + 1 = b.1 + b.2.2
      · rw [show i = b.1 + (b.2.2 - 1) from by lia] at h1
        have := G.i1 h1 hm
        exact absurd h2 (by rw [e, show j + 1 = b.2.1 + b.2.2 from by lia]; exact B0.hi)
      · lia
    · show b.2.1 + b.2.2 ≤ j
      by_cases e : j + 1 = b.2.1 + b.2.2
      · rw [show j = b.2.1 + (b.2.2 - 1) from by lia] at h1
        have := G.i2 h1 hm
        exact absurd h2 (by rw [e, show i + 1 = b.1 + b.2.2 from by lia]; exact B0.hi)
      · lia
  · rcases W.kin h with x | x | x
    · obtain ⟨x1, x2, x3, x4⟩ := x
      by_cases hlt : b.1 + (b.2.2 - 1) < i
      · have := G.mono hk h hlt
        exact .inl ⟨by show b.1 + b.2.2 ≤ i; lia, x2, by show b.2.1 + b.2.2 ≤ j; lia, x4⟩
      · refine .inr (.inl ⟨by show i < b.1 + b.2.2; lia, ?_⟩)
        show j < b.2.1 + b.2.2
        by_cases e : i = b.1 + (b.2.2 - 1)
        · subst e
          have := G.i1 (G.sub h) hm
          lia
        · have := G.mono h hk (by lia)
          lia
    · exact .inr (.inl ⟨by show i < b.1 + b.2.2; lia, by show j < b.2.1 + b.2.2; lia⟩)
    · exact .inr (.inr x)
structure KRun (M K : Int → Int → Prop) (b : Tri) : Prop where
  run : Run M b.1 b.2.1 b.2.2
  kk : ∀ r, 0 ≤ r → r < b.2.2 → K (b.1 + r) (b.2.1 + r)
  lo : ¬ M (b.1 - 1) (b.2.1 - 1)
  hi : ¬ M (b.1 + b.2.2) (b.2.1 + b.2.2)
noncomputable def Cov (bl : List Tri) (i j : Int) : Prop := ∃ t ∈ bl, t.1 ≤ i ∧ i < t.1 + t.2.2 ∧ j - t.2.1 = i - t.1
theorem Zc5 (G : Grd M K) {F : Win → Tri} {la lb : Int} (WK : WOK F la lb) (hF : ∀ W0, Zc9 la lb W0 → Longest M W0.1 W0.2.1 W0.2.2.1 W0.2.2.2 (F W0)) : ∀ n (st : List Win) acc, (∀ W0 ∈ st, Zc9 la lb W0 ∧ WH M K W0) → wts st ≤ n → Apart st acc →
    ∃ ext, mbGo F n st acc = acc ++ ext ∧ (acc ++ ext).Nodup ∧ (∀ t ∈ ext, KRun M K t) ∧ ∀ W0 ∈ st, ∀ i j, inW W0 i j → K i j → Cov ext i j
  | 0, st, acc, hin, hn, ha => by
    cases st with
    | nil => exact ⟨[], by rw [Znu]; simp, by simpa using ha.nd, by simp, by simp⟩
    | cons W0 st => rw [Zbl] at hn; unfold wt at hn; lia
  | n + 1, [], acc, hin, hn, ha => ⟨[], by rw [Znu]; simp, by simpa using ha.nd, by simp, by simp⟩
  | n + 1, W0 :: st, acc, hin, hn, ha => by
    refine hide fun Gq kq => ?_
    obtain ⟨hw, W⟩ := hin W0 (.head _)
    refine kq ?_; clear kq Gq
    have Lg := hF W0 hw
    rw [Zbl] at hn
    have h1 : 1 ≤ wt W0 := by unfold wt; (exact Nat.succ_pos _)
    rw [Zh1]
    by_cases hk : (F W0).2.2 = 0
    · rw [if_pos hk]
      refine hide fun Gq kq => ?_
      obtain ⟨ext, e1, e2, e3, e4⟩ := Zc5 G WK hF n st acc (fun x hx => hin x (.tail _ hx)) (by lia) ha.tail
      refine kq ?_; clear kq Gq
      refine ⟨ext, e1, e2, e3, fun x hx i j hi hK => ?_⟩
      rcases List.mem_cons.mp hx with rfl | hx
      · exact absurd (G.sub hK) (Zr7 Lg hk hi)
      · exact e4 x hx i j hi hK
    · rw [if_neg hk]
      refine hide fun Gq kq => ?_
      have hk' : 0 < (F W0).2.2 := by have := WK.k0 W0; lia
      have Bt := Zr6 G W Lg hk'
      have hl := Zfa WK hw hk'
      have hleft : ∀ x ∈ Zbx W0 (F W0), x = (W0.1, (F W0).1, W0.2.2.1, (F W0).2.1) := fun x hx => by
        unfold Zbx at hx; split at hx
        · exact List.mem_singleton.mp hx
        · cases hx
      have hright : ∀ x ∈ Zbe W0 (F W0), x = ((F W0).1 + (F W0).2.2, W0.2.1, (F W0).2.1 + (F W0).2.2, W0.2.2.2) := fun x hx => by
        unfold Zbe at hx; split at hx
        · exact List.mem_singleton.mp hx
        · cases hx
      obtain ⟨ext, e1, e2, e3, e4⟩ := Zc5 G WK hF n (Zbe W0 (F W0) ++ (Zbx W0 (F W0) ++ st)) (acc ++ [F W0]) (fun x hx => by
        rcases List.mem_append.mp hx with hx | hx
        · exact ⟨(Zcf WK hw hk' x hx).1, by rw [hright x hx]; exact W.right G Bt⟩
        · rcases List.mem_append.mp hx with hx | hx
          · exact ⟨(Zcl WK hw hk' x hx).1, by rw [hleft x hx]; exact W.left G Bt⟩
          · exact hin x (.tail _ hx)) (by rw [wts_app, wts_app]; lia) (ha.step WK hw hk')
      refine kq ?_; clear kq Gq
      refine ⟨F W0 :: ext, by rw [e1]; simp, by simpa using e2, fun t ht => ?_, fun x hx i j hi hK => ?_⟩
      · rcases List.mem_cons.mp ht with rfl | ht
        · exact ⟨Bt.run, Bt.kk, Bt.lo, Bt.hi⟩
        · exact e3 t ht
      · have tl : Cov ext i j → Cov (F W0 :: ext) i j := fun ⟨t, ht, h⟩ => ⟨t, .tail _ ht, h⟩
        rcases List.mem_cons.mp hx with rfl | hx
        · by_cases c1 : i < (F x).1
          · refine hide fun Gq kq => ?_
            have hk0 := Bt.kk 0 (by (exact Int.natCast_nonneg _)) hk'
            rw [Int.add_zero, Int.add_zero] at hk0
            have hj := G.mono hK hk0 c1
            have hi' := hi
            obtain ⟨d1, d2, d3, d4⟩ := hi'
            refine kq ?_; clear kq Gq
            have hm : (x.1, (F x).1, x.2.2.1, (F x).2.1) ∈ Zbx x (F x) := by unfold Zbx; rw [if_pos ⟨by (exact Int.lt_of_le_of_lt (by assumption) (by assumption)), by (exact Int.lt_of_le_of_lt (by assumption) (by assumption))⟩]; exact .head _
            exact tl (e4 _ (List.mem_append_right _ (List.mem_append_left _ hm)) i j ⟨d1, c1, d3, hj⟩ hK)
          · by_cases c2 : i < (F x).1 + (F x).2.2
            · have := Bt.run.2 (i - (F x).1) (by lia) (by lia)
              rw [show (F x).1 + (i - (F x).1) = i from by lia] at this
              have := G.i1 (G.sub hK) this
              exact ⟨F x, .head _, by (exact Int.not_lt.mp (by assumption)), c2, by lia⟩
            · refine hide fun Gq kq => ?_
              have hk1 := Bt.kk ((F x).2.2 - 1) (by lia) (by lia)
              have hj := G.mono hk1 hK (by lia)
              have hi' := hi
              obtain ⟨d1, d2, d3, d4⟩ := hi'
              refine kq ?_; clear kq Gq
              have hm : ((F x).1 + (F x).2.2, x.2.1, (F x).2.1 + (F x).2.2, x.2.2.2) ∈ Zbe x (F x) := by unfold Zbe; rw [if_pos ⟨by lia, by lia⟩]; exact .head _
              exact tl (e4 _ (List.mem_append_left _ hm) i j ⟨by show (F x).1 + (F x).2.2 ≤ i; (exact Int.not_lt.mp (by assumption)), d2, by show (F x).2.1 + (F x).2.2 ≤ j; lia, d4⟩ hK)
        · exact tl (e4 x (List.mem_append_right _ (List.mem_append_right _ hx)) i j hi hK)
theorem Zg7 (G : Grd M K) {F : Win → Tri} {la lb : Int} (hla : 0 ≤ la) (hlb : 0 ≤ lb) (hin : ∀ i j, M i j → inW (0, la, 0, lb) i j) (WK : WOK F la lb) (hF : ∀ W0, Zc9 la lb W0 → Longest M W0.1 W0.2.1 W0.2.2.1 W0.2.2.2 (F W0)) :
    (rawB F la lb).Nodup ∧ (∀ t ∈ rawB F la lb, KRun M K t) ∧ ∀ i j, K i j → Cov (rawB F la lb) i j := by
  refine hide fun Gq kq => ?_
  obtain ⟨ext, e1, e2, e3, e4⟩ := Zc5 G WK hF (wt (0, la, 0, lb)) [(0, la, 0, lb)] [] (fun W0 hw => by
    rw [List.mem_singleton] at hw; subst hw
    exact ⟨⟨by dsimp only; (exact Int.natCast_nonneg _), hla, by dsimp only; (exact Int.le_refl _), by dsimp only; (exact Int.natCast_nonneg _), hlb, by dsimp only; (exact Int.le_refl _)⟩, ⟨fun h1 h2 => ⟨fun _ => hin _ _ h2, fun _ => hin _ _ h1⟩, fun h => .inl (hin _ _ (G.sub h))⟩⟩) (by simp [wts]) ⟨List.pairwise_singleton _ _, by simp, List.nodup_nil⟩
  refine kq ?_; clear kq Gq
  have e : rawB F la lb = ext := by unfold rawB; rw [e1]; rfl
  rw [e]
  exact ⟨by simpa using e2, e3, fun i j h => e4 _ (.head _) i j (hin _ _ (G.sub h)) h⟩
end
noncomputable def Gap (x y : Tri) : Prop := x.1 + x.2.2 ≤ y.1 ∧ x.2.1 + x.2.2 ≤ y.2.1 ∧ ¬ (x.1 + x.2.2 = y.1 ∧ x.2.1 + x.2.2 = y.2.1)
section
variable {M K : Int → Int → Prop}
theorem KRun.at (G : Grd M K) {x y : Tri} (hx : KRun M K x) (hy : KRun M K y) (h : lexB x y = true) : Gap x y := by
  have hn := hx.run.1
  have hm := hy.run.1
  have ky := hy.kk 0 (by (exact Int.natCast_nonneg _)) hm
  rw [Int.add_zero, Int.add_zero] at ky
  have my := hy.run.first
  rw [Zfm] at h
  have out : ¬ (x.1 ≤ y.1 ∧ y.1 < x.1 + x.2.2) ∨ x.1 = y.1 := by
    by_cases e : x.1 = y.1
    · exact .inr e
    · refine .inl fun ⟨h1, h2⟩ => ?_
      have a := hx.run.2 (y.1 - x.1) (by lia) (by lia)
      rw [show x.1 + (y.1 - x.1) = y.1 from by lia] at a
      have := G.i1 a my
      have b := hx.run.2 (y.1 - 1 - x.1) (by lia) (by lia)
      exact hy.lo (by rwa [show x.1 + (y.1 - 1 - x.1) = y.1 - 1 from by lia, show x.2.1 + (y.1 - 1 - x.1) = y.2.1 - 1 from by lia] at b)
  have lt : x.1 ≠ y.1 := fun e => by
    have mx := hx.run.first
    rw [e] at mx
    have e2 := G.i1 mx my
    have e3 : x.2.2 = y.2.2 := by
      rcases Int.lt_trichotomy x.2.2 y.2.2 with c | c | c
      · exfalso
        have := hy.run.2 x.2.2 (by (exact Int.le_of_lt (by assumption))) c
        exact hx.hi (by rwa [e, e2])
      · exact c
      · exfalso
        have := hx.run.2 y.2.2 (by (exact Int.le_of_lt (by assumption))) c
        exact hy.hi (by rwa [← e, ← e2])
    lia
  have le1 : x.1 + x.2.2 ≤ y.1 := by
    rcases out with o | o
    · lia
    · exact absurd o lt
  have kx := hx.kk (x.2.2 - 1) (by lia) (by lia)
  have := G.mono kx ky (by lia)
  refine ⟨le1, by lia, fun ⟨a, b⟩ => ?_⟩
  exact hx.hi (by rw [a, b]; exact my)
theorem Zir (G : Grd M K) {bl : List Tri} (nd : bl.Nodup) (kr : ∀ t ∈ bl, KRun M K t) : (Zg5 bl).Pairwise Gap :=
  (Zhs nd).imp_of_mem fun {x y} hx hy h => KRun.at G (kr x ((Zce bl).mem_iff.mp hx)) (kr y ((Zce bl).mem_iff.mp hy)) h
end
theorem Zh8 : ∀ (bl : List Tri) (cur : Tri) (pre : List Tri), (cur :: bl).Pairwise Gap → (∀ t ∈ cur :: bl, 0 < t.2.2) → 0 < (bl.foldl stepM (cur, pre)).1.2.2 ∧ (bl.foldl stepM (cur, pre)).2 ++ [(bl.foldl stepM (cur, pre)).1] = pre ++ cur :: bl
  | [], cur, pre, _, h0 => ⟨h0 cur (.head _), by simp⟩
  | b :: bl, cur, pre, hp, h0 => by
    rw [List.pairwise_cons] at hp
    have g := hp.1 b (.head _)
    have hc := h0 cur (.head _)
    rw [List.foldl_cons]
    have e : stepM (cur, pre) b = (b, pre ++ [cur]) := by
      unfold stepM
      dsimp only
      rw [if_neg g.2.2, if_neg (by lia)]
    rw [e]
    have ih := Zh8 bl b (pre ++ [cur]) hp.2 fun t ht => h0 t (.tail _ ht)
    exact ⟨ih.1, by rw [ih.2]; simp⟩
theorem Zit {bl : List Tri} {la lb : Int} (hp : bl.Pairwise Gap) (h0 : ∀ t ∈ bl, 0 < t.2.2) : Zka bl la lb = bl ++ [(la, lb, 0)] := by
  unfold Zka stM
  rw [List.take_length]
  cases bl with
  | nil => rfl
  | cons b bl =>
    rw [List.foldl_cons]
    have e : stepM ((0, 0, 0), []) b = (b, []) := by
      unfold stepM
      dsimp only
      by_cases h : (0 : Int) + 0 = b.1 ∧ (0 : Int) + 0 = b.2.1
      · rw [if_pos h]
        obtain ⟨h1, h2⟩ := h
        obtain ⟨b1, b2, b3⟩ := b
        dsimp only at h1 h2 ⊢
        rw [← h1, ← h2]; simp
      · rw [if_neg h, if_pos rfl]
    rw [e]
    have f := Zh8 bl b [] hp h0
    rw [if_neg (by omega), f.2]; rfl
noncomputable def Zfp (i ai j bj : Int) : List Op := if Zbn i ai j bj = "" then [] else [(Zbn i ai j bj, i, ai, j, bj)]
noncomputable def opsR : Int → Int → List Tri → List Op
  | _, _, [] => []
  | i, j, b :: bl => Zfp i b.1 j b.2.1 ++ ((if b.2.2 = 0 then [] else [("equal", b.1, b.1 + b.2.2, b.2.1, b.2.1 + b.2.2)]) ++ opsR (b.1 + b.2.2) (b.2.1 + b.2.2) bl)
theorem opsR_s {i j : Int} {b : Tri} {bl : List Tri} : opsR i j (b :: bl) = Zfp i b.1 j b.2.1 ++ ((if b.2.2 = 0 then [] else [("equal", b.1, b.1 + b.2.2, b.2.1, b.2.1 + b.2.2)]) ++ opsR (b.1 + b.2.2) (b.2.1 + b.2.2) bl) := rfl
theorem Zqh : ∀ (bl : List Tri) (st : CSt), (bl.foldl stepC st).2.2 = st.2.2 ++ opsR st.1 st.2.1 bl
  | [], st => (List.append_nil _).symm
  | b :: bl, st => by
    rw [List.foldl_cons, Zqh bl, opsR_s]
    unfold stepC Zfp
    simp
theorem Zol (bl : List Tri) : Zj2 bl = opsR 0 0 bl := by unfold Zj2; rw [Zqh]; rfl
noncomputable def MP (a b : List Int) (i j : Int) : Prop := 0 ≤ i ∧ i < a.length ∧ 0 ≤ j ∧ j < b.length ∧ a.getD i.toNat 0 = b.getD j.toNat 0
theorem Zsb {a b : List Int} {p q : Int} (h0 : 0 ≤ p) (h1 : p < a.length) : MJ a (idxN b) p q ↔ MP a b p q := by
  unfold MJ MP
  constructor
  · rintro ⟨j, hj, rfl⟩
    simp only [idxN, List.mem_filter, List.mem_range, beq_iff_eq] at hj
    refine ⟨h0, h1, by (exact Int.natCast_nonneg _), by lia, ?_⟩
    rw [Int.toNat_natCast, List.getD_eq_getElem?_getD (l := b), hj.2]; rfl
  · rintro ⟨-, -, h2, h3, e⟩
    refine ⟨q.toNat, ?_, by (exact Ziq (by assumption))⟩
    simp only [idxN, List.mem_filter, List.mem_range, beq_iff_eq]
    refine ⟨by (exact Zcd (by assumption) (by assumption)), ?_⟩
    rw [e, List.getElem?_eq_getElem (by (exact Zcd (by assumption) (by assumption))), List.getD_eq_getElem?_getD, List.getElem?_eq_getElem (by (exact Zcd (by assumption) (by assumption)))]; rfl
theorem Longest.congr {M M' : Int → Int → Prop} {alo ahi blo bhi : Int} {b : Best} (L : Longest M alo ahi blo bhi b) (h : ∀ i j, alo ≤ i → i < ahi → (M i j ↔ M' i j)) : Longest M' alo ahi blo bhi b := by
  have cc : ∀ i j k, Common M alo ahi blo bhi i j k ↔ Common M' alo ahi blo bhi i j k := fun i j k =>
    ⟨fun ⟨a0, a1, b0, b1, k0, eq⟩ => ⟨a0, a1, b0, b1, k0, fun t h0 h1 => (h _ _ (by lia) (by lia)).mp (eq t h0 h1)⟩,
     fun ⟨a0, a1, b0, b1, k0, eq⟩ => ⟨a0, a1, b0, b1, k0, fun t h0 h1 => (h _ _ (by lia) (by lia)).mpr (eq t h0 h1)⟩⟩
  exact ⟨L.k0, L.zero, fun h0 => (cc _ _ _).mp (L.com h0), fun i j k c => L.max i j k ((cc _ _ _).mpr c)⟩
theorem Zov {a b : List Int} {aj : Bool} (hp : PJ b aj = idxN b) (W0 : Win) (hw : Zc9 a.length b.length W0) : Longest (MP a b) W0.1 W0.2.1 W0.2.2.1 W0.2.2.2 (flmW a b aj W0) := by
  refine hide fun Gq kq => ?_
  obtain ⟨h1, h2, h3, h4, h5, h6⟩ := hw
  refine kq ?_; clear kq Gq
  unfold flmW
  rw [hp]
  exact (Zga h4 h6).congr fun i j g1 g2 => Zsb (by lia) (by (exact Int.lt_of_lt_of_le (by assumption) (by assumption)))
theorem Zf6 : ∀ {l st : List Int}, l.Nodup → (∀ x ∈ l, x ∈ st) → l.length ≤ st.length
  | [], _, _, _ => Nat.zero_le _
  | x :: l, st, nd, h => by
    rw [List.nodup_cons] at nd
    have hx := h x (.head _)
    have := Zf6 (l := l) (st := st.erase x) nd.2 fun y hy => (List.mem_erase_of_ne (fun e => nd.1 (by rw [← e]; exact hy))).mpr (h y (.tail _ hy))
    rw [List.length_erase_of_mem hx] at this
    have := List.length_pos_of_mem hx
    rw [List.length_cons]; lia
section
variable {M K : Int → Int → Prop}
theorem KRun.inj (G : Grd M K) {x y : Tri} (hx : KRun M K x) (hy : KRun M K y) (h : x.1 = y.1) : x = y := by
  have mx := hx.run.first
  have my := hy.run.first
  rw [h] at mx
  have h2 := G.i1 mx my
  have nx := hx.run.1
  have ny := hy.run.1
  have h3 : x.2.2 = y.2.2 := by
    rcases Int.lt_trichotomy x.2.2 y.2.2 with c | c | c
    · exact absurd (by rw [h, h2]; exact hy.run.2 x.2.2 (by (exact Int.le_of_lt (by assumption))) c) hx.hi
    · exact c
    · exact absurd (by rw [← h, ← h2]; exact hx.run.2 y.2.2 (by (exact Int.le_of_lt (by assumption))) c) hy.hi
  exact Prod.ext h (Prod.ext h2 h3)
theorem Zj0 (G : Grd M K) {raw : List Tri} (nd : raw.Nodup) (kr : ∀ t ∈ raw, KRun M K t) {st : List Int} (hst : ∀ i j, K i j → ¬ M (i - 1) (j - 1) → i ∈ st) : raw.length ≤ st.length := by
  have h := Zf6 (l := raw.map (·.1)) (st := st) (by
    unfold List.Nodup
    rw [List.pairwise_map]
    exact List.Pairwise.imp_of_mem (fun {x y} hx hy hne e => hne (KRun.inj G (kr x hx) (kr y hy) e)) nd) (fun x hx => by
    obtain ⟨t, ht, rfl⟩ := List.mem_map.mp hx
    have k := (kr t ht).kk 0 (by (exact Int.natCast_nonneg _)) (kr t ht).run.1
    rw [Int.add_zero, Int.add_zero] at k
    exact hst _ _ k (kr t ht).lo)
  rwa [List.length_map] at h
theorem Cov.perm {bl bl' : List Tri} (p : bl.Perm bl') {i j : Int} (h : Cov bl i j) : Cov bl' i j := by
  obtain ⟨t, ht, x⟩ := h
  exact ⟨t, p.mem_iff.mp ht, x⟩
structure Told (M K : Int → Int → Prop) (bl : List Tri) : Prop where
  gap : bl.Pairwise Gap
  kr : ∀ t ∈ bl, KRun M K t
  cov : ∀ i j, K i j → Cov bl i j
end
theorem Zn7 {a b : List Int} {aj : Bool} {K : Int → Int → Prop} (hp : PJ b aj = idxN b) (G : Grd (MP a b) K) {st : List Int} (hst : ∀ i j, K i j → ¬ MP a b (i - 1) (j - 1) → i ∈ st) :
    ∃ bl, Told (MP a b) K bl ∧ bl.length ≤ st.length ∧ (rawB (flmW a b aj) a.length b.length).length ≤ st.length ∧ mbF (flmW a b aj) a.length b.length = bl ++ [((a.length : Int), (b.length : Int), 0)] := by
  refine hide fun Gq kq => ?_
  obtain ⟨nd, kr, cov⟩ := Zg7 (la := a.length) (lb := b.length) G (by (exact Int.natCast_nonneg _)) (by (exact Int.natCast_nonneg _)) (fun i j h => ⟨h.1, h.2.1, h.2.2.1, h.2.2.2.1⟩) (Zks a b aj _ _) (Zov hp)
  refine kq ?_; clear kq Gq
  have hc := Zj0 G nd kr hst
  have pm := Zce (rawB (flmW a b aj) a.length b.length)
  have T : Told (MP a b) K (Zg5 (rawB (flmW a b aj) a.length b.length)) := ⟨Zir G nd kr, fun t ht => kr t (pm.mem_iff.mp ht), fun i j h => (cov i j h).perm pm.symm⟩
  exact ⟨_, T, by rw [pm.length_eq]; exact hc, hc, Zit T.gap fun t ht => (T.kr t ht).run.1⟩
noncomputable def OKs (old new notes : List Int) (now : Int) : RSt → List Op → Prop
  | _, [] => True
  | st, o :: r => OKop old new st o ∧ OKs old new notes now (Zd7 notes now st o) r
section
variable {a b N due : List Int} {now : Int} {K : Int → Int → Prop}
theorem Zlg : ∀ {xs ys : List Op} {st : RSt}, OKs a b N now st xs → OKs a b N now (xs.foldl (Zd7 N now) st) ys → OKs a b N now st (xs ++ ys)
  | [], _, _, _, h => h
  | _ :: _, _, _, h1, h => ⟨h1.1, Zlg h1.2 h⟩
theorem Zlf : ∀ {ops : List Op} {st : RSt}, OKs a b N now st ops → ∀ k o, ops[k]? = some o → OKop a b ((ops.take k).foldl (Zd7 N now) st) o
  | [], _, _, k, o, h => by simp at h
  | x :: r, st, h, 0, o, e => by cases e; exact h.1
  | x :: r, st, h, k + 1, o, e => Zlf h.2 k o e
theorem Zf2 {due xs : List Int} {j n : Nat} (hx : xs.length = n) (h : ∀ r, r < n → due[j + r]? = xs[r]?) : due.take j ++ xs = due.take (j + n) := by
  rw [List.take_add]
  congr 1
  apply List.ext_getElem?
  intro r
  by_cases hr : r < n
  · rw [List.getElem?_take_of_lt hr, List.getElem?_drop]; exact (h r hr).symm
  · rw [List.getElem?_eq_none (by lia), List.getElem?_eq_none (by simp; lia)]
theorem Zjt {xs : List Int} {i k : Int} (h0 : 0 ≤ i) (hk : 0 ≤ k) (h1 : i + k ≤ xs.length) : (sl xs i (i + k)).length = k.toNat ∧ ∀ r, r < k.toNat → (sl xs i (i + k))[r]? = some (xs.getD (i.toNat + r) 0) := by
  unfold sl
  have e : (i + k - i).toNat = k.toNat := by rw [show i + k - i = k from by lia]
  rw [e]
  refine ⟨by rw [List.length_take, List.length_drop]; exact Nat.min_eq_left (by omega), fun r hr => ?_⟩
  rw [List.getElem?_take_of_lt hr, List.getElem?_drop, List.getD_eq_getElem?_getD, List.getElem?_eq_getElem (by lia)]; rfl
theorem Zg3 (i ai j bj : Int) : Zbn i ai j bj ∈ tags ∧ Zbn i ai j bj ≠ "equal" ∧ (Zbn i ai j bj = "" → ai ≤ i ∧ bj ≤ j) := by
  unfold Zbn tags
  split <;> split <;> simp <;> lia
structure Due (a b N due : List Int) (K : Int → Int → Prop) (now : Int) : Prop where
  len : due.length = b.length
  k : ∀ i j, K i j → due[j.toNat]? = some (N.getD i.toNat 0)
  n : ∀ j : Int, 0 ≤ j → j < b.length → (∀ i, ¬ K i j) → due[j.toNat]? = some now
theorem Znx {tag : String} {i j ai bj : Int} (h0 : 0 ≤ i) (h1 : i ≤ ai) (h2 : ai ≤ a.length) (g0 : 0 ≤ j) (g1 : j ≤ bj) (g2 : bj ≤ b.length) (ht : tag = "" ∨ tag = "equal") (hd : ∀ r : Int, j ≤ r → r < bj → due[r.toNat]? = some now) (hl : due.length ≤ 4000) :
    ∃ tag', tag' ∈ tags ∧ (tag' = "equal" → tag = "equal" ∧ i = ai ∧ j = bj) ∧ OKs a b N now (tag, i, j, due.take j.toNat) (Zfp i ai j bj) ∧ (Zfp i ai j bj).foldl (Zd7 N now) (tag, i, j, due.take j.toNat) = (tag', ai, bj, due.take bj.toNat) := by
  obtain ⟨t1, t2, t3⟩ := Zg3 i ai j bj
  have hmem : tag ∈ tags := by rcases ht with rfl | rfl <;> simp [tags]
  unfold Zfp
  by_cases e : Zbn i ai j bj = ""
  · rw [if_pos e]
    obtain ⟨x, y⟩ := t3 e
    have hi : i = ai := by lia
    have hj : j = bj := by lia
    subst hi hj
    exact ⟨tag, hmem, fun h => ⟨h, rfl, rfl⟩, trivial, rfl⟩
  · rw [if_neg e]
    refine ⟨Zbn i ai j bj, t1, fun h => absurd h t2, ⟨⟨rfl, rfl, h0, h1, h2, g0, g1, g2, ?_, fun h => absurd h t2, fun _ => ?_, hmem, ?_⟩, trivial⟩, ?_⟩
    · rcases ht with rfl | rfl
      · exact .inl rfl
      · exact .inr fun h => t2 (h.mpr rfl)
    · show Zbn i ai j bj = Zb7 (Zbn i ai j bj, i, ai, j, bj)
      unfold Zbn at e ⊢
      unfold Zb7
      dsimp only
      by_cases c1 : i < ai <;> by_cases c2 : j < bj <;> simp [c1, c2] at e ⊢
    · show (due.take j.toNat).length ≤ 4000
      exact Zau hl
    · show (Zbn i ai j bj, ai, bj, due.take j.toNat ++ if Zbn i ai j bj = "equal" then sl N i ai else List.replicate (bj - j).toNat now) = _
      rw [if_neg t2, Zf2 (n := (bj - j).toNat) (by simp) fun r hr => ?_]
      · rw [Zpr g0 (Int.sub_nonneg_of_le g1), show j + (bj - j) = bj from by lia]
      · rw [List.getElem?_replicate, if_pos hr]
        have := hd (j + r) (by lia) (by lia)
        rwa [show (j + (r : Int)).toNat = j.toNat + r from by lia] at this
theorem Zrx {tag : String} {ai bj k : Int} (h0 : 0 ≤ ai) (h2 : ai + k ≤ a.length) (g0 : 0 ≤ bj) (g2 : bj + k ≤ b.length) (hk : 0 < k) (hN : N.length = a.length) (ht : tag ∈ tags) (ht2 : tag ≠ "equal") (hm : ∀ r : Int, 0 ≤ r → r < k → a.getD (ai + r).toNat 0 = b.getD (bj + r).toNat 0)
    (hd : ∀ r : Int, 0 ≤ r → r < k → due[(bj + r).toNat]? = some (N.getD (ai + r).toNat 0)) (hl : due.length ≤ 4000) :
    OKop a b (tag, ai, bj, due.take bj.toNat) ("equal", ai, ai + k, bj, bj + k) ∧ Zd7 N now (tag, ai, bj, due.take bj.toNat) ("equal", ai, ai + k, bj, bj + k) = ("equal", ai + k, bj + k, due.take (bj + k).toNat) := by
  refine ⟨⟨rfl, rfl, h0, by show ai ≤ ai + k; lia, h2, g0, by show bj ≤ bj + k; lia, g2, .inr fun h => ht2 (h.mp rfl), fun _ => ⟨?_, ?_⟩, fun h => absurd rfl h, ht, ?_⟩, ?_⟩
  · unfold Zb7; dsimp only; rw [if_pos (by lia), if_pos (by lia)]
  · show sl a ai (ai + k) = sl b bj (bj + k)
    obtain ⟨la, fa⟩ := Zjt (xs := a) h0 (Int.le_of_lt hk) h2
    obtain ⟨lb, fb⟩ := Zjt (xs := b) g0 (Int.le_of_lt hk) g2
    apply List.ext_getElem?
    intro r
    by_cases hr : r < k.toNat
    · rw [fa r hr, fb r hr]
      have := hm r (by (exact Int.natCast_nonneg _)) (by lia)
      rwa [show (ai + (r : Int)).toNat = ai.toNat + r from by lia, show (bj + (r : Int)).toNat = bj.toNat + r from by lia, ← Option.some_inj] at this
    · rw [List.getElem?_eq_none (by lia), List.getElem?_eq_none (by lia)]
  · show (due.take bj.toNat).length ≤ 4000
    rw [List.length_take]; lia
  · show ("equal", ai + k, bj + k, due.take bj.toNat ++ if "equal" = "equal" then sl N ai (ai + k) else List.replicate (bj + k - bj).toNat now) = _
    obtain ⟨l, f⟩ := Zjt (xs := N) h0 (Int.le_of_lt hk) (by rw [hN]; exact h2)
    rw [if_pos rfl, Zf2 (n := k.toNat) l fun r hr => ?_]
    · rw [show bj.toNat + k.toNat = (bj + k).toNat from by lia]
    · rw [f r hr]
      have := hd r (by (exact Int.natCast_nonneg _)) (by lia)
      rwa [show (ai + (r : Int)).toNat = ai.toNat + r from by lia, show (bj + (r : Int)).toNat = bj.toNat + r from by lia] at this
theorem Zjv (D : Due a b N due K now) (hN : N.length = a.length) (hlb : b.length ≤ 900) : ∀ (bl : List Tri) (i j : Int) (tag : String), 0 ≤ i → i ≤ a.length → 0 ≤ j → j ≤ b.length → bl.Pairwise Gap → (∀ t ∈ bl, KRun (MP a b) K t) → (∀ i' j', K i' j' → j ≤ j' → Cov bl i' j') →
    (∀ t ∈ bl, i ≤ t.1 ∧ j ≤ t.2.1) → (tag = "" ∨ (tag = "equal" ∧ ∀ t ∈ bl, ¬ (i = t.1 ∧ j = t.2.1))) →
    OKs a b N now (tag, i, j, due.take j.toNat) (opsR i j (bl ++ [((a.length : Int), (b.length : Int), 0)])) ∧ ∃ tag', (opsR i j (bl ++ [((a.length : Int), (b.length : Int), 0)])).foldl (Zd7 N now) (tag, i, j, due.take j.toNat) = (tag', (a.length : Int), (b.length : Int), due)
  | [], i, j, tag, h0, h1, g0, g1, _, _, hc, _, ht => by
    have e : opsR i j ([] ++ [((a.length : Int), (b.length : Int), (0 : Int))]) = Zfp i a.length j b.length := by
      show Zfp i a.length j b.length ++ ([] ++ []) = _
      rw [List.append_nil, List.append_nil]
    rw [e]
    refine hide fun Gq kq => ?_
    obtain ⟨tag', -, -, x, y⟩ := Znx (a := a) (b := b) (N := N) (now := now) (tag := tag) h0 h1 (Int.le_refl _) g0 g1 (Int.le_refl _) (ht.imp (fun x => x) (·.1)) (fun r r0 r1 => D.n r (by (exact Int.le_trans (by assumption) (by assumption))) (by omega) fun i' k => by
      obtain ⟨t, ht, _⟩ := hc i' r k r0
      cases ht) (by rw [D.len]; (exact Nat.le_trans (by assumption) (by decide)))
    refine kq ?_; clear kq Gq
    refine ⟨x, tag', ?_⟩
    rw [y, show ((b.length : Nat) : Int).toNat = due.length from by rw [D.len]; (exact Int.toNat_natCast _), List.take_length]
  | t :: bl, i, j, tag, h0, h1, g0, g1, hp, hr, hc, hle, ht => by
    refine hide fun Gq kq => ?_
    rw [List.pairwise_cons] at hp
    have R := hr t (.head _)
    have hk := R.run.1
    have f1 := R.run.first
    have f2 := R.run.2 (t.2.2 - 1) (by lia) (by lia)
    obtain ⟨l1, l2⟩ := hle t (.head _)
    obtain ⟨p1, p2, p3, p4, -⟩ := f1
    obtain ⟨q1, q2, q3, q4, -⟩ := f2
    refine kq ?_; clear kq Gq
    have e : opsR i j (t :: bl ++ [((a.length : Int), (b.length : Int), (0 : Int))]) = Zfp i t.1 j t.2.1 ++ (("equal", t.1, t.1 + t.2.2, t.2.1, t.2.1 + t.2.2) :: opsR (t.1 + t.2.2) (t.2.1 + t.2.2) (bl ++ [((a.length : Int), (b.length : Int), 0)])) := by
      rw [List.cons_append, opsR_s, if_neg (by lia)]; rfl
    rw [e]
    refine hide fun Gq kq => ?_
    obtain ⟨tag', m', n', x, y⟩ := Znx (a := a) (b := b) (N := N) (now := now) (tag := tag) h0 l1 (by (exact Int.le_of_lt (by assumption))) g0 l2 (by (exact Int.le_of_lt (by assumption))) (ht.imp (fun x => x) (·.1)) (fun r r0 r1 => D.n r (by lia) (by (exact Int.lt_trans (by assumption) (by assumption))) fun i' k => by
      obtain ⟨s, hs, c1, c2, c3⟩ := hc i' r k r0
      rcases List.mem_cons.mp hs with rfl | hs
      · lia
      · have := (hp.1 s hs).2.1
        lia) (by rw [D.len]; (exact Nat.le_trans (by assumption) (by decide)))
    have hne : tag' ≠ "equal" := fun h => by
      obtain ⟨z1, z2, z3⟩ := n' h
      rcases ht with rfl | ⟨rfl, hh⟩
      · exact absurd z1 (by decide)
      · exact hh t (.head _) ⟨z2, z3⟩
    obtain ⟨o1, o2⟩ := Zrx (a := a) (b := b) (N := N) (due := due) (now := now) (k := t.2.2) p1 (by lia) p3 (by lia) hk hN m' hne (fun r r0 r1 => (R.run.2 r r0 r1).2.2.2.2) (fun r r0 r1 => D.k _ _ (R.kk r r0 r1)) (by rw [D.len]; (exact Nat.le_trans (by assumption) (by decide)))
    obtain ⟨ih1, tag2, ih2⟩ := Zjv D hN hlb bl (t.1 + t.2.2) (t.2.1 + t.2.2) "equal" (by lia) (by lia) (by lia) (by lia) hp.2 (fun s hs => hr s (.tail _ hs)) (fun i' j' k hj => by
      obtain ⟨s, hs, c1, c2, c3⟩ := hc i' j' k (by lia)
      rcases List.mem_cons.mp hs with rfl | hs
      · lia
      · exact ⟨s, hs, c1, c2, c3⟩) (fun s hs => ⟨(hp.1 s hs).1, (hp.1 s hs).2.1⟩) (.inr ⟨rfl, fun s hs => (hp.1 s hs).2.2⟩)
    refine kq ?_; clear kq Gq
    refine ⟨Zlg x ?_, tag2, ?_⟩
    · rw [y]
      refine ⟨o1, ?_⟩
      rw [o2]; exact ih1
    · rw [List.foldl_append, y, List.foldl_cons, o2, ih2]
theorem Zgc {p : Nat → Bool} {fk : Nat → Int} {fv : Nat → AV} : ∀ {n : Nat}, (∀ i i', i < n → i' < n → fk i = fk i' → i = i') → ∀ i, i < n → p i = true → dget (dofs p fk fv n) (fk i) = some (fv i)
  | 0, _, i, h, _ => by lia
  | n + 1, hi, i, h, hp => by
    rw [dofs_s]
    by_cases e : i = n
    · subst e
      rw [if_pos hp, dget_dput, if_pos rfl]
    · have ih := Zgc (p := p) (fk := fk) (fv := fv) (n := n) (fun x y hx hy => hi x y (by (exact Nat.lt_succ_of_lt (by assumption))) (by (exact Nat.lt_succ_of_lt (by assumption)))) i (by lia) hp
      split
      · rw [dget_dput, if_neg (fun h => e (hi i n (by omega) (by (exact Nat.lt_succ_self _)) (by first | exact h | exact h.symm))), ih]
      · exact ih
theorem Zc2 {p : Nat → Bool} {fk : Nat → Int} {fv : Nat → AV} {l : Int} : ∀ {n : Nat}, (∀ i, i < n → p i = true → fk i ≠ l) → dget (dofs p fk fv n) l = none
  | 0, _ => rfl
  | n + 1, h => by
    have ih := Zc2 (p := p) (fk := fk) (fv := fv) (l := l) (n := n) fun i hi => h i (by (exact Nat.lt_succ_of_lt (by assumption)))
    rw [dofs_s]
    split
    · rename_i hp
      rw [dget_dput, if_neg (by first | exact fun e => h n (by omega) hp e | exact fun e => h n (by (exact Nat.lt_succ_self _)) hp e.symm), ih]
    · exact ih
end
theorem Zhp {a b drop : List Int} {K : Int → Int → Prop} {st : List Int} (hla : a.length ≤ 900) (hlb : b.length ≤ 900) (nda : a.Nodup) (ndb : b.Nodup) (G : Grd (MP a b) K) (hK : ∀ i j, K i j ↔ MP a b i j ∧ a.getD i.toNat 0 ∉ drop) (hst : ∀ i j, K i j → ¬ MP a b (i - 1) (j - 1) → i ∈ st) (hl : st.length ≤ 10)
    (hp : PJ b true = idxN b) : StepOK a b drop := by
  obtain ⟨bl, T, n1, n2, n3⟩ := Zn7 hp G hst
  have hD : ∀ (N : List Int) (now : Int), Due a b N (dueF a N b drop now) K now := fun N now => by
    have inj : ∀ i i', i < a.length → i' < a.length → a.getD i 0 = a.getD i' 0 → i = i' := fun i i' h h' e => by
      rw [List.getD_eq_getElem?_getD, List.getD_eq_getElem?_getD, List.getElem?_eq_getElem h, List.getElem?_eq_getElem h'] at e
      exact (List.getElem_inj nda).mp e
    refine ⟨by unfold dueF; rw [List.length_map], fun i j k => ?_, fun j j0 j1 k => ?_⟩
    · obtain ⟨⟨m1, m2, m3, m4, m5⟩, m6⟩ := (hK i j).mp k
      unfold dueF
      rw [List.getElem?_map, List.getElem?_eq_getElem (by (exact Zcd (by assumption) (by assumption)))]
      have e : b[j.toNat]'(by (exact Zcd (by assumption) (by assumption))) = a.getD i.toNat 0 := by rw [m5, List.getD_eq_getElem?_getD, List.getElem?_eq_getElem (by (exact Zcd (by assumption) (by assumption)))]; rfl
      have := Zgc (p := fun i => !drop.contains (a.getD i 0)) (fk := fun i => a.getD i 0) (fv := fun i => .int (N.getD i 0)) (n := a.length) inj i.toNat (by (exact Zcd (by assumption) (by assumption))) (by simpa using m6)
      rw [Option.map_some, e]
      show some (match dget (whoF a N drop) (a.getD i.toNat 0) with | some (.int x) => x | _ => now) = _
      unfold whoF
      rw [this]
    · unfold dueF
      rw [List.getElem?_map, List.getElem?_eq_getElem (by (exact Zcd (by assumption) (by assumption)))]
      have := Zc2 (p := fun i => !drop.contains (a.getD i 0)) (fk := fun i => a.getD i 0) (fv := fun i => .int (N.getD i 0)) (n := a.length) (l := b[j.toNat]'(by (exact Zcd (by assumption) (by assumption)))) fun i hi hpi e => by
        refine k i ((hK _ _).mpr ⟨⟨by (exact Int.natCast_nonneg _), by (exact Int.ofNat_lt.mpr (by assumption)), j0, j1, ?_⟩, by simpa using hpi⟩)
        rw [Int.toNat_natCast, e, List.getD_eq_getElem?_getD, List.getElem?_eq_getElem (by (exact Zcd (by assumption) (by assumption)))]; rfl
      rw [Option.map_some]
      show some (match dget (whoF a N drop) _ with | some (.int x) => x | _ => now) = _
      unfold whoF
      rw [this]
  have hc : codesF a b true = opsR 0 0 (bl ++ [((a.length : Int), (b.length : Int), 0)]) := by unfold codesF; rw [n3, Zol]
  have all : ∀ (N : List Int) (now : Int), N.length = a.length → OKs a b N now ("", 0, 0, []) (codesF a b true) ∧ ∃ tag', (codesF a b true).foldl (Zd7 N now) ("", 0, 0, []) = (tag', (a.length : Int), (b.length : Int), dueF a N b drop now) := fun N now hN => by
    have := Zjv (hD N now) hN hlb bl 0 0 "" (by (exact Int.natCast_nonneg _)) (by (exact Int.natCast_nonneg _)) (by (exact Int.natCast_nonneg _)) (by (exact Int.natCast_nonneg _)) T.gap T.kr (fun i' j' k _ => T.cov i' j' k) (fun t ht => ⟨(T.kr t ht).run.first.1, (T.kr t ht).run.first.2.2.1⟩) (.inl rfl)
    rw [hc]; exact this
  have fin : ∀ (N : List Int) (now : Int), N.length = a.length → ∃ tag', stR N now (codesF a b true) (codesF a b true).length = (tag', (a.length : Int), (b.length : Int), dueF a N b drop now) := fun N now hN => by
    unfold stR; rw [List.take_length]; exact (all N now hN).2
  refine ⟨hla, hlb, ndb, by lia, by rw [n3, List.length_append, List.length_singleton]; lia, fun N now hN k o e => Zlf (all N now hN).1 k o e, fun N now hN => ?_, fun N now hN => ?_, fun N now hN => ?_⟩
  all_goals (obtain ⟨tag', e⟩ := fin N now hN; rw [e])
theorem Zqv {a b : List Int} (nd : b.Nodup) {n k : Nat} {x : Int} (ha : a[n]? = some x) (hb : b[k]? = some x) (j : Int) : MP a b n j ↔ j = k := by
  have hn : n < a.length := (List.getElem?_eq_some_iff.mp ha).1
  have hk : k < b.length := (List.getElem?_eq_some_iff.mp hb).1
  have ea : a.getD n 0 = x := by rw [List.getD_eq_getElem?_getD, ha]; rfl
  have eb : b.getD k 0 = x := by rw [List.getD_eq_getElem?_getD, hb]; rfl
  unfold MP
  rw [Int.toNat_natCast, ea]
  constructor
  · rintro ⟨-, -, h1, h2, e⟩
    have h3 : j.toNat < b.length := by (exact Zcd (by assumption) (by assumption))
    rw [List.getD_eq_getElem?_getD, List.getElem?_eq_getElem h3] at e
    rw [List.getElem?_eq_getElem hk] at hb
    have := (List.getElem_inj (h₀ := h3) (h₁ := hk) nd).mp (e.symm.trans (Option.some.inj hb).symm)
    lia
  · rintro rfl
    exact ⟨by (exact Int.natCast_nonneg _), by (exact Int.ofNat_lt.mpr (by assumption)), by (exact Int.natCast_nonneg _), by (exact Int.ofNat_lt.mpr (by assumption)), by rw [Int.toNat_natCast, eb]⟩
theorem Zsa {a b : List Int} {n : Nat} {x : Int} (ha : a[n]? = some x) (hb : x ∉ b) (j : Int) : ¬ MP a b n j := by
  rintro ⟨-, -, h1, h2, e⟩
  rw [Int.toNat_natCast, List.getD_eq_getElem?_getD, ha, List.getD_eq_getElem?_getD, List.getElem?_eq_getElem (by (exact Zcd (by assumption) (by assumption)))] at e
  exact hb (by rw [show x = _ from e]; exact List.getElem_mem _)
theorem Zop {a : List Int} (nd : a.Nodup) {n : Nat} {x : Int} (ha : a[n]? = some x) (s l : Nat) : x ∈ (a.drop s).take l ↔ s ≤ n ∧ n < s + l := by
  have hn : n < a.length := (List.getElem?_eq_some_iff.mp ha).1
  constructor
  · intro h
    obtain ⟨r, hr, e⟩ := List.getElem_of_mem h
    rw [List.length_take, List.length_drop] at hr
    rw [List.getElem_take, List.getElem_drop] at e
    rw [List.getElem?_eq_getElem hn] at ha
    have := (List.getElem_inj (h₁ := hn) nd).mp (e.trans (Option.some.inj ha).symm)
    lia
  · rintro ⟨h1, h2⟩
    refine List.mem_of_getElem? (i := n - s) ?_
    rw [List.getElem?_take_of_lt (by lia), List.getElem?_drop, show s + (n - s) = n from by lia, ha]
theorem Znf {a b : List Int} (nd : b.Nodup) {i j j' : Int} (h : MP a b i j) (h' : MP a b i j') : j = j' := by
  refine hide fun Gq kq => ?_
  obtain ⟨a1, a2, a3, a4, a5⟩ := h
  obtain ⟨-, -, b3, b4, b5⟩ := h'
  refine kq ?_; clear kq Gq
  have e := a5.symm.trans b5
  rw [List.getD_eq_getElem?_getD, List.getD_eq_getElem?_getD, List.getElem?_eq_getElem (by (exact Zcd (by assumption) (by assumption))), List.getElem?_eq_getElem (by (exact Zcd (by assumption) (by assumption)))] at e
  have := (List.getElem_inj nd).mp e
  lia
theorem Zne {a b : List Int} (nd : a.Nodup) {i i' j : Int} (h : MP a b i j) (h' : MP a b i' j) : i = i' := by
  obtain ⟨a1, a2, a3, a4, a5⟩ := h
  obtain ⟨b1, b2, -, -, b5⟩ := h'
  have e := a5.trans b5.symm
  rw [List.getD_eq_getElem?_getD, List.getD_eq_getElem?_getD, List.getElem?_eq_getElem (by (exact Zcd (by assumption) (by assumption))), List.getElem?_eq_getElem (by lia)] at e
  have := (List.getElem_inj nd).mp e
  lia
noncomputable abbrev KO (M : Int → Int → Prop) (lo hi i j : Int) : Prop := M i j ∧ ¬ (lo ≤ i ∧ i < hi)
theorem Zij {M : Int → Int → Prop} {lo hi : Int} (i1 : ∀ {i j j'}, M i j → M i j' → j = j') (i2 : ∀ {i i' j}, M i j → M i' j → i = i')
    (e1 : lo < hi → ∀ j, M (lo - 1) j → M lo (j + 1) → False) (e2 : lo < hi → ∀ j, M (hi - 1) j → M hi (j + 1) → False)
    (mono : ∀ {i j i' j'}, M i j → M i' j' → i < i' → ¬ (lo ≤ i ∧ i < hi) → ¬ (lo ≤ i' ∧ i' < hi) → j < j')
    (cross : ∀ {s t n}, Run M s t n → lo ≤ s → s < hi → s + n ≤ hi → ∃ s' t' n', Run M s' t' n' ∧ ¬ (lo ≤ s' ∧ s' < hi) ∧ (n < n' ∨ (n' = n ∧ s' < s)) ∧ ((s' < s ∧ t < t') ∨ (s < s' ∧ t' < t))) : Grd M (KO M lo hi) := by
  refine ⟨i1, i2, fun h => h.1, fun {i j} h1 h2 => ⟨fun ⟨_, nd⟩ => ⟨h2, fun d => ?_⟩, fun ⟨_, nd⟩ => ⟨h1, fun d => ?_⟩⟩, fun h h' hlt => mono h.1 h'.1 hlt h.2 h'.2, fun {s t n} h hn => ?_⟩
  · have e : i = lo - 1 := by omega
    rw [e, show lo - 1 + 1 = lo from by lia] at h2
    rw [e] at h1
    exact e1 (by omega) j h1 h2
  · have e : i = hi - 1 := by lia
    rw [e, show hi - 1 + 1 = hi from by lia] at h2
    rw [e] at h1
    exact e2 (by omega) j h1 h2
  · refine hide fun Gq kq => ?_
    have hf := h.first
    have hd : lo ≤ s ∧ s < hi := Classical.byContradiction fun c => hn ⟨hf, c⟩
    have hle : s + n ≤ hi := by
      refine Classical.byContradiction fun hc => ?_
      have x1 := h.2 (hi - 1 - s) (by omega) (by lia)
      have x2 := h.2 (hi - s) (by omega) (by lia)
      rw [show s + (hi - 1 - s) = hi - 1 from by lia] at x1
      rw [show s + (hi - s) = hi from by lia, show t + (hi - s) = t + (hi - 1 - s) + 1 from by lia] at x2
      exact e2 (by omega) _ x1 x2
    obtain ⟨s', t', n', R, nd, x⟩ := cross h hd.1 hd.2 hle
    refine kq ?_; clear kq Gq
    exact ⟨s', t', n', R, ⟨R.first, nd⟩, x⟩
theorem Zgp {a b : List Int} {i j : Int} (h : MP a b i j) : ∃ n : Nat, i = n ∧ n < a.length := ⟨i.toNat, by have := h.1; lia, by have := h.1; have := h.2.1; (exact Zcd (by assumption) (by assumption))⟩
theorem Zg6 {l : List Int} {n : Nat} (h : n < l.length) : ∃ x, l[n]? = some x := ⟨_, List.getElem?_eq_getElem h⟩
theorem Zpw {b : List Int} (h : ∀ k, (idxN b k).length ≤ 1) : PJ b true = idxN b := Zqs (.inr (.inr fun k => Nat.le_trans (h k) (by (exact Nat.succ_pos _))))
theorem Zii {a b drop : List Int} {lo hi : Int} (h : ∀ n, n < a.length → (a.getD n 0 ∈ drop ↔ lo ≤ (n : Int) ∧ (n : Int) < hi)) (i j : Int) : KO (MP a b) lo hi i j ↔ MP a b i j ∧ a.getD i.toNat 0 ∉ drop := by
  constructor
  · rintro ⟨m, nd⟩
    obtain ⟨n, rfl, hn⟩ := Zgp m
    exact ⟨m, fun hd => nd ((h n hn).mp (by rwa [Int.toNat_natCast] at hd))⟩
  · rintro ⟨m, nd⟩
    obtain ⟨n, rfl, hn⟩ := Zgp m
    exact ⟨m, fun hd => nd (by rw [Int.toNat_natCast]; exact (h n hn).mpr hd)⟩
theorem Zk4 {a : List Int} (nd : a.Nodup) {n : Nat} (hn : n < a.length) (s l : Nat) : a.getD n 0 ∈ (a.drop s).take l ↔ ((s : Nat) : Int) ≤ (n : Int) ∧ (n : Int) < ((s : Nat) : Int) + ((l : Nat) : Int) := by
  rw [Zop nd (n := n) (x := a.getD n 0) (by rw [List.getD_eq_getElem?_getD, List.getElem?_eq_getElem hn]; rfl) s l]
  omega
theorem Zge (k m : Nat) : ((k + (m + 1) : Nat) : Int) - 1 = ((k + m : Nat) : Int) := by lia
theorem Zk0 (m : Nat) : ((m + 1 : Nat) : Int) - 1 = (m : Int) := by lia
theorem kut3 {A P R n : Nat} (h : n < A + P + R) : (∃ m, m < A ∧ n = m) ∨ (∃ m, m < P ∧ n = A + m) ∨ (∃ m, m < R ∧ n = A + P + m) := by
  by_cases h1 : n < A
  · exact .inl ⟨n, h1, rfl⟩
  · by_cases h2 : n < A + P
    · exact .inr (.inl ⟨n - A, by lia, by lia⟩)
    · exact .inr (.inr ⟨n - (A + P), by lia, by lia⟩)
theorem kut4 {A P Q R n : Nat} (h : n < A + P + Q + R) : (∃ m, m < A ∧ n = m) ∨ (∃ m, m < P ∧ n = A + m) ∨ (∃ m, m < Q ∧ n = A + P + m) ∨ (∃ m, m < R ∧ n = A + P + Q + m) := by
  rcases kut3 h with ⟨m, hm, e⟩ | h | h
  · by_cases h1 : n < A
    · exact .inl ⟨n, h1, rfl⟩
    · exact .inr (.inl ⟨n - A, by lia, by lia⟩)
  · exact .inr (.inr (.inl h))
  · exact .inr (.inr (.inr h))
theorem Zgj {A B0 C : List Int} {n : Nat} (hn : n < B0.length) : (A ++ B0 ++ C)[A.length + n]? = B0[n]? := by
  rw [List.append_assoc, List.getElem?_append_right (Nat.le_add_right ..), Nat.add_sub_cancel_left, List.getElem?_append_left hn]
theorem Ze9 {a b A B0 C A' C' : List Int} (ha : a = A ++ B0 ++ C) (hb : b = A' ++ B0 ++ C') (nd : b.Nodup) {n : Nat} (hn : n < B0.length) (j : Int) : MP a b ((A.length + n : Nat) : Int) j ↔ j = ((A'.length + n : Nat) : Int) := by
  obtain ⟨x, hx⟩ := Zg6 hn
  exact Zqv nd (by rw [ha]; exact (Zgj hn).trans hx) (by rw [hb]; exact (Zgj hn).trans hx) j
theorem Zhf {a b B0 C C' : List Int} (ha : a = B0 ++ C) (hb : b = B0 ++ C') (nd : b.Nodup) {n : Nat} (hn : n < B0.length) (j : Int) : MP a b (n : Int) j ↔ j = (n : Int) := by
  have := Ze9 (A := []) (A' := []) ha hb nd hn j
  rwa [List.length_nil, Nat.zero_add] at this
section
variable {M : Int → Int → Prop} {H X Y P Q U R : Nat}
noncomputable def Mdis (H X Y R : Nat) (i j : Int) : Prop := ∃ m : Nat, (m < H ∧ i = (m : Int) ∧ j = (m : Int)) ∨ (m < R ∧ i = ((H + X + m : Nat) : Int) ∧ j = ((H + Y + m : Nat) : Int))
theorem Gdis (i1 : ∀ {i j j'}, M i j → M i j' → j = j') (i2 : ∀ {i i' j}, M i j → M i' j → i = i') (f : ∀ {i j}, M i j → Mdis H X Y R i j) : Grd M (KO M 0 0) := by
  refine Zij i1 i2 (fun h => absurd h (by decide)) (fun h => absurd h (by decide)) (fun h h' hlt _ _ => ?_) (fun _ h0 h1 => absurd h0 (Int.not_le.mpr h1))
  obtain ⟨m, h⟩ := f h
  obtain ⟨m', h'⟩ := f h'
  rcases h with h | h <;> rcases h' with h' | h' <;> lia
noncomputable def Mswp (H P Q R : Nat) (i j : Int) : Prop := ∃ m : Nat, (m < H ∧ i = (m : Int) ∧ j = (m : Int)) ∨ (m < P ∧ i = ((H + m : Nat) : Int) ∧ j = ((H + Q + m : Nat) : Int)) ∨ (m < Q ∧ i = ((H + P + m : Nat) : Int) ∧ j = ((H + m : Nat) : Int)) ∨ (m < R ∧ i = ((H + P + Q + m : Nat) : Int) ∧ j = ((H + P + Q + m : Nat) : Int))
theorem Gswp (i1 : ∀ {i j j'}, M i j → M i j' → j = j') (i2 : ∀ {i i' j}, M i j → M i' j → i = i') (f : ∀ {i j}, M i j ↔ Mswp H P Q R i j) (hc : P ≥ Q) : Grd M (KO M ((H + P : Nat) : Int) ((H + P + Q : Nat) : Int)) := by
  have g2 : ∀ m, m < P → M ((H + m : Nat) : Int) ((H + Q + m : Nat) : Int) := fun m h => f.mpr ⟨m, .inr (.inl ⟨h, rfl, rfl⟩)⟩
  have g3 : ∀ m, m < Q → M ((H + P + m : Nat) : Int) ((H + m : Nat) : Int) := fun m h => f.mpr ⟨m, .inr (.inr (.inl ⟨h, rfl, rfl⟩))⟩
  have kept : ∀ {i j}, M i j → ¬ (((H + P : Nat) : Int) ≤ i ∧ i < ((H + P + Q : Nat) : Int)) → i ≤ j ∧ ((i < H ∧ j = i) ∨ (i < ((H + P : Nat) : Int) ∧ j = i + Q ∧ (H : Int) ≤ i) ∨ (((H + P + Q : Nat) : Int) ≤ i ∧ j = i)) := fun {i j} h n => by
    obtain ⟨m, h⟩ := f.mp h
    rcases h with ⟨c, rfl, rfl⟩ | ⟨c, rfl, rfl⟩ | ⟨c, rfl, rfl⟩ | ⟨c, rfl, rfl⟩
    · exact ⟨Int.le_refl _, .inl ⟨Int.ofNat_lt.mpr c, rfl⟩⟩
    · exact ⟨by lia, .inr (.inl ⟨by lia, by lia, by lia⟩)⟩
    · exact absurd ⟨by lia, by lia⟩ n
    · exact ⟨Int.le_refl _, .inr (.inr ⟨by lia, rfl⟩)⟩
  have drop : ∀ {s t}, M s t → ((H + P : Nat) : Int) ≤ s → s < ((H + P + Q : Nat) : Int) → t = s - P := fun {s t} h h0 h1 => by
    have e : s = ((H + P + (s - ((H + P : Nat) : Int)).toNat : Nat) : Int) := by lia
    have x := g3 (s - ((H + P : Nat) : Int)).toNat (by lia)
    rw [← e] at x
    rw [i1 h x]; lia
  refine Zij i1 i2 (fun hlt j h1 h2 => ?_) (fun hlt j h1 h2 => ?_) (fun {i j i' j'} h h' hlt n1 n2 => ?_) (fun {s t n} h h0 h1 hle => ?_)
  · have hQ : 0 < Q := by lia
    have x1 := i1 h1 (by have := g2 (P - 1) (by omega); rwa [show ((H + (P - 1) : Nat) : Int) = ((H + P : Nat) : Int) - 1 from by lia] at this)
    have x2 := drop h2 (Int.le_refl _) hlt
    lia
  · have x1 := drop h1 (by lia) (by lia)
    obtain ⟨-, x⟩ := kept h2 (fun x => Int.lt_irrefl _ x.2)
    omega
  · obtain ⟨-, x⟩ := kept h n1
    obtain ⟨l, y⟩ := kept h' n2
    rcases x with x | x | x
    · rw [x.2]; exact Int.lt_of_lt_of_le hlt l
    · rcases y with y | y | y <;> lia
    · rw [x.2]; exact Int.lt_of_lt_of_le hlt l
  · have x := drop h.first h0 h1
    have hn := h.1
    refine ⟨H, ((H + Q : Nat) : Int), P, ⟨by lia, fun r r0 r1 => ?_⟩, by lia, by lia, .inl ⟨by lia, by lia⟩⟩
    have := g2 r.toNat (Zcd r0 r1)
    rwa [Int.natCast_add H, Int.natCast_add (H + Q), Ziq r0] at this
theorem Zsc (i1 : ∀ {i j j'}, M i j → M i j' → j = j') (i2 : ∀ {i i' j}, M i j → M i' j → i = i') (f : ∀ {i j}, M i j ↔ Mswp H P Q R i j) (hc : P < Q) : Grd M (KO M (H : Int) ((H + P : Nat) : Int)) := by
  have g3 : ∀ m, m < Q → M ((H + P + m : Nat) : Int) ((H + m : Nat) : Int) := fun m h => f.mpr ⟨m, .inr (.inr (.inl ⟨h, rfl, rfl⟩))⟩
  have kept : ∀ {i j}, M i j → ¬ ((H : Int) ≤ i ∧ i < ((H + P : Nat) : Int)) → j ≤ i ∧ ((i < H ∧ j = i) ∨ (((H + P : Nat) : Int) ≤ i ∧ i < ((H + P + Q : Nat) : Int) ∧ j = i - P) ∨ (((H + P + Q : Nat) : Int) ≤ i ∧ j = i)) := fun {i j} h n => by
    obtain ⟨m, h⟩ := f.mp h
    rcases h with ⟨c, rfl, rfl⟩ | ⟨c, rfl, rfl⟩ | ⟨c, rfl, rfl⟩ | ⟨c, rfl, rfl⟩
    · exact ⟨Int.le_refl _, .inl ⟨Int.ofNat_lt.mpr c, rfl⟩⟩
    · exact absurd ⟨by lia, by lia⟩ n
    · exact ⟨by lia, .inr (.inl ⟨by lia, by lia, by lia⟩)⟩
    · exact ⟨Int.le_refl _, .inr (.inr ⟨by lia, rfl⟩)⟩
  have drop : ∀ {s t}, M s t → (H : Int) ≤ s → s < ((H + P : Nat) : Int) → t = s + Q := fun {s t} h h0 h1 => by
    have e : s = ((H + (s - (H : Int)).toNat : Nat) : Int) := by lia
    have x : M ((H + (s - (H : Int)).toNat : Nat) : Int) ((H + Q + (s - (H : Int)).toNat : Nat) : Int) := f.mpr ⟨_, .inr (.inl ⟨by lia, rfl, rfl⟩)⟩
    rw [← e] at x
    rw [i1 h x]; lia
  refine Zij i1 i2 (fun hlt j h1 h2 => ?_) (fun hlt j h1 h2 => ?_) (fun {i j i' j'} h h' hlt n1 n2 => ?_) (fun {s t n} h h0 h1 hle => ?_)
  · obtain ⟨x1, -⟩ := kept h1 (fun x => by omega)
    have x2 := drop h2 (Int.le_refl _) hlt
    lia
  · have x1 := drop h1 (by lia) (by lia)
    obtain ⟨x2, -⟩ := kept h2 (fun x => Int.lt_irrefl _ x.2)
    lia
  · obtain ⟨l, x⟩ := kept h n1
    obtain ⟨-, y⟩ := kept h' n2
    rcases y with y | y | y
    · rw [y.2]; exact Int.lt_of_le_of_lt l hlt
    · rcases x with x | x | x <;> lia
    · rw [y.2]; exact Int.lt_of_le_of_lt l hlt
  · have x := drop h.first h0 h1
    have hn := h.1
    refine ⟨((H + P : Nat) : Int), H, Q, ⟨by lia, fun r r0 r1 => ?_⟩, by lia, .inl (by lia), .inr ⟨by omega, by lia⟩⟩
    have := g3 r.toNat (Zcd r0 r1)
    rwa [Int.natCast_add (H + P), Int.natCast_add H r.toNat, Ziq r0] at this
noncomputable def Mtrn (H U R : Nat) (i j : Int) : Prop := ∃ m : Nat, (m < H ∧ i = (m : Int) ∧ j = (m : Int)) ∨ (m < U ∧ i = ((H + m : Nat) : Int) ∧ j = ((H + (U - 1 - m) : Nat) : Int)) ∨ (m < R ∧ i = ((H + U + m : Nat) : Int) ∧ j = ((H + U + m : Nat) : Int))
theorem Gtrn (i1 : ∀ {i j j'}, M i j → M i j' → j = j') (i2 : ∀ {i i' j}, M i j → M i' j → i = i') (f : ∀ {i j}, M i j ↔ Mtrn H U R i j) : Grd M (KO M ((H + 1 : Nat) : Int) ((H + U : Nat) : Int)) := by
  have g2 : ∀ {i j}, (H : Int) ≤ i → i < ((H + U : Nat) : Int) → M i j → i + j = 2 * H + U - 1 := fun {i j} h0 h1 h => by
    obtain ⟨m, h⟩ := f.mp h
    rcases h with ⟨c, rfl, rfl⟩ | ⟨c, rfl, rfl⟩ | ⟨c, rfl, rfl⟩ <;> lia
  have kept : ∀ {i j}, M i j → ¬ ((H : Int) ≤ i ∧ i < ((H + U : Nat) : Int)) → j = i ∧ (i < H ∨ ((H + U : Nat) : Int) ≤ i) := fun {i j} h n => by
    obtain ⟨m, h⟩ := f.mp h
    rcases h with ⟨c, rfl, rfl⟩ | ⟨c, rfl, rfl⟩ | ⟨c, rfl, rfl⟩
    · exact ⟨rfl, .inl (Int.ofNat_lt.mpr c)⟩
    · exact absurd ⟨by lia, by lia⟩ n
    · exact ⟨rfl, .inr (by lia)⟩
  refine Zij i1 i2 (fun hlt j h1 h2 => ?_) (fun hlt j h1 h2 => ?_) (fun {i j i' j'} h h' hlt n1 n2 => ?_) (fun {s t n} h h0 h1 hle => ?_)
  · have x1 := g2 (by lia) (by lia) h1
    have x2 := g2 (by lia) (by omega) h2
    omega
  · have x1 := g2 (by lia) (by lia) h1
    have x2 := (kept h2 (fun x => Int.lt_irrefl _ x.2)).1
    lia
  · by_cases c : (H : Int) ≤ i ∧ i < ((H + U : Nat) : Int)
    · have x := g2 c.1 c.2 h
      have y := (kept h' (by lia)).1
      lia
    · obtain ⟨x, x'⟩ := kept h c
      by_cases c' : (H : Int) ≤ i' ∧ i' < ((H + U : Nat) : Int)
      · have y := g2 c'.1 c'.2 h'
        lia
      · rw [x, (kept h' c').1]; exact hlt
  · have x := g2 (by (exact Int.le_of_lt (by assumption))) h1 h.first
    have hn := h.1
    have hle : n ≤ 1 := by
      refine Classical.byContradiction fun hc => ?_
      have y := g2 (by lia) (by lia) (h.2 1 (by decide) (by (exact Int.not_le.mp (by assumption))))
      lia
    refine ⟨H, ((H + (U - 1) : Nat) : Int), 1, ⟨by decide, fun r r0 r1 => ?_⟩, by lia, by lia, .inl ⟨by assumption, by lia⟩⟩
    rw [show r = 0 from by lia, Int.add_zero, Int.add_zero]
    exact f.mpr ⟨0, .inr (.inl ⟨by lia, rfl, rfl⟩)⟩
end
theorem Zoy {a b h X Y r : List Int} (ha : a = h ++ X ++ r) (hb : b = h ++ Y ++ r) (nda : a.Nodup) (nd : b.Nodup) (dj : ∀ x ∈ X, x ∉ Y) {i j : Int} : MP a b i j ↔ Mdis h.length X.length Y.length r.length i j := by
  have s1 : ∀ {m}, m < h.length → ∀ j, MP a b (m : Int) j ↔ j = (m : Int) := fun c j => Zhf (ha.trans (List.append_assoc ..)) (hb.trans (List.append_assoc ..)) nd c j
  have s3 : ∀ {m}, m < r.length → ∀ j, MP a b ((h.length + X.length + m : Nat) : Int) j ↔ j = ((h.length + Y.length + m : Nat) : Int) := fun c j => by
    have := Ze9 (a := a) (b := b) (A := h ++ X) (B0 := r) (C := []) (A' := h ++ Y) (C' := []) (by rw [ha, List.append_nil]) (by rw [hb, List.append_nil]) nd c j
    rwa [List.length_append, List.length_append] at this
  constructor
  · intro hm
    obtain ⟨n, rfl, hn⟩ := Zgp hm
    have hn' : n < h.length + X.length + r.length := by rw [ha, List.length_append, List.length_append] at hn; exact hn
    rcases kut3 hn' with ⟨m, c, rfl⟩ | ⟨m, c, rfl⟩ | ⟨m, c, rfl⟩
    · exact ⟨_, .inl ⟨c, rfl, (s1 c j).mp hm⟩⟩
    · obtain ⟨x, hx⟩ := Zg6 c
      have hxm := List.mem_of_getElem? hx
      refine absurd hm (Zsa (x := x) (by rw [ha]; exact (Zgj c).trans hx) ?_ j)
      rw [ha, List.nodup_append, List.nodup_append] at nda
      rw [hb, List.mem_append, List.mem_append]
      rintro ((hh | hh) | hh)
      · exact nda.1.2.2 x hh x hxm rfl
      · exact dj x hxm hh
      · exact nda.2.2 x (List.mem_append_right _ hxm) x hh rfl
    · exact ⟨m, .inr ⟨c, rfl, (s3 c j).mp hm⟩⟩
  · rintro ⟨m, ⟨c, rfl, rfl⟩ | ⟨c, rfl, rfl⟩⟩
    · exact (s1 c _).mpr rfl
    · exact (s3 c _).mpr rfl
theorem Zoc {a b h p q r : List Int} (ha : a = h ++ p ++ q ++ r) (hb : b = h ++ q ++ p ++ r) (nd : b.Nodup) {i j : Int} : MP a b i j ↔ Mswp h.length p.length q.length r.length i j := by
  have s1 : ∀ {m}, m < h.length → ∀ j, MP a b (m : Int) j ↔ j = (m : Int) := fun c j => Zhf (a := a) (b := b) (C := p ++ q ++ r) (C' := q ++ p ++ r) (by rw [ha]; simp only [List.append_assoc]) (by rw [hb]; simp only [List.append_assoc]) nd c j
  have s2 : ∀ {m}, m < p.length → ∀ j, MP a b ((h.length + m : Nat) : Int) j ↔ j = ((h.length + q.length + m : Nat) : Int) := fun c j => by
    have := Ze9 (a := a) (b := b) (A := h) (B0 := p) (C := q ++ r) (A' := h ++ q) (C' := r) (by rw [ha, List.append_assoc (h ++ p)]) hb nd c j
    rwa [List.length_append] at this
  have s3 : ∀ {m}, m < q.length → ∀ j, MP a b ((h.length + p.length + m : Nat) : Int) j ↔ j = ((h.length + m : Nat) : Int) := fun c j => by
    have := Ze9 (a := a) (b := b) (A := h ++ p) (B0 := q) (C := r) (A' := h) (C' := p ++ r) ha (by rw [hb, List.append_assoc (h ++ q)]) nd c j
    rwa [List.length_append] at this
  have s4 : ∀ {m}, m < r.length → ∀ j, MP a b ((h.length + p.length + q.length + m : Nat) : Int) j ↔ j = ((h.length + p.length + q.length + m : Nat) : Int) := fun c j => by
    have := Ze9 (a := a) (b := b) (A := h ++ p ++ q) (B0 := r) (C := []) (A' := h ++ q ++ p) (C' := []) (by rw [ha, List.append_nil]) (by rw [hb, List.append_nil]) nd c j
    rwa [List.length_append, List.length_append, List.length_append, List.length_append, Nat.add_right_comm h.length q.length] at this
  constructor
  · intro hm
    obtain ⟨n, rfl, hn⟩ := Zgp hm
    have hn' : n < h.length + p.length + q.length + r.length := by rw [ha, List.length_append, List.length_append, List.length_append] at hn; exact hn
    rcases kut4 hn' with ⟨m, c, rfl⟩ | ⟨m, c, rfl⟩ | ⟨m, c, rfl⟩ | ⟨m, c, rfl⟩
    · exact ⟨_, .inl ⟨c, rfl, (s1 c j).mp hm⟩⟩
    · exact ⟨_, .inr (.inl ⟨c, rfl, (s2 c j).mp hm⟩)⟩
    · exact ⟨_, .inr (.inr (.inl ⟨c, rfl, (s3 c j).mp hm⟩))⟩
    · exact ⟨_, .inr (.inr (.inr ⟨c, rfl, (s4 c j).mp hm⟩))⟩
  · rintro ⟨m, ⟨c, rfl, rfl⟩ | ⟨c, rfl, rfl⟩ | ⟨c, rfl, rfl⟩ | ⟨c, rfl, rfl⟩⟩
    · exact (s1 c _).mpr rfl
    · exact (s2 c _).mpr rfl
    · exact (s3 c _).mpr rfl
    · exact (s4 c _).mpr rfl
theorem Zn6 {a b h u r : List Int} (ha : a = h ++ u ++ r) (hb : b = h ++ u.reverse ++ r) (nd : b.Nodup) {i j : Int} : MP a b i j ↔ Mtrn h.length u.length r.length i j := by
  have s1 : ∀ {m}, m < h.length → ∀ j, MP a b (m : Int) j ↔ j = (m : Int) := fun c j => Zhf (ha.trans (List.append_assoc ..)) (hb.trans (List.append_assoc ..)) nd c j
  have s2 : ∀ {m}, m < u.length → ∀ j, MP a b ((h.length + m : Nat) : Int) j ↔ j = ((h.length + (u.length - 1 - m) : Nat) : Int) := fun {m} c j => by
    obtain ⟨x, hx⟩ := Zg6 c
    have c' : u.length - 1 - m < u.reverse.length := by rw [List.length_reverse]; omega
    refine Zqv nd (by rw [ha]; exact (Zgj c).trans hx) (x := x) ?_ j
    rw [hb, Zgj c', List.getElem?_reverse (by omega), show u.length - 1 - (u.length - 1 - m) = m from by omega, hx]
  have s3 : ∀ {m}, m < r.length → ∀ j, MP a b ((h.length + u.length + m : Nat) : Int) j ↔ j = ((h.length + u.length + m : Nat) : Int) := fun c j => by
    have := Ze9 (a := a) (b := b) (A := h ++ u) (B0 := r) (C := []) (A' := h ++ u.reverse) (C' := []) (by rw [ha, List.append_nil]) (by rw [hb, List.append_nil]) nd c j
    rwa [List.length_append, List.length_append, List.length_reverse] at this
  constructor
  · intro hm
    obtain ⟨n, rfl, hn⟩ := Zgp hm
    have hn' : n < h.length + u.length + r.length := by rw [ha, List.length_append, List.length_append] at hn; exact hn
    rcases kut3 hn' with ⟨m, c, rfl⟩ | ⟨m, c, rfl⟩ | ⟨m, c, rfl⟩
    · exact ⟨_, .inl ⟨c, rfl, (s1 c j).mp hm⟩⟩
    · exact ⟨_, .inr (.inl ⟨c, rfl, (s2 c j).mp hm⟩)⟩
    · exact ⟨_, .inr (.inr ⟨c, rfl, (s3 c j).mp hm⟩)⟩
  · rintro ⟨m, ⟨c, rfl, rfl⟩ | ⟨c, rfl, rfl⟩ | ⟨c, rfl, rfl⟩⟩
    · exact (s1 c _).mpr rfl
    · exact (s2 c _).mpr rfl
    · exact (s3 c _).mpr rfl
theorem Zoe {h X Y r : List Int} (dj : ∀ x ∈ X, x ∉ Y) (nda : (h ++ X ++ r).Nodup) (ndb : (h ++ Y ++ r).Nodup) (la : (h ++ X ++ r).length ≤ 900) (lb : (h ++ Y ++ r).length ≤ 900) (hp : PJ (h ++ Y ++ r) true = idxN (h ++ Y ++ r)) : StepOK (h ++ X ++ r) (h ++ Y ++ r) [] := by
  generalize ha : h ++ X ++ r = a at *
  generalize hb : h ++ Y ++ r = b at *
  have f : ∀ {i j}, MP a b i j ↔ Mdis h.length X.length Y.length r.length i j := Zoy ha.symm hb.symm nda ndb dj
  refine Zhp (K := KO (MP a b) 0 0) (st := [0, ((h.length + X.length : Nat) : Int)]) la lb nda ndb (Gdis (fun a b => Znf ndb a b) (fun a b => Zne nda a b) f.mp) (Zii fun n hn => ⟨fun x => (by cases x), fun x => absurd x.1 (Int.not_le.mpr x.2)⟩) (fun i j k hn => ?_) (by simp) hp
  obtain ⟨m, ⟨c, rfl, rfl⟩ | ⟨c, rfl, rfl⟩⟩ := f.mp k.1
  · cases m with
    | zero => exact .head _
    | succ m => rw [Zk0] at hn; exact absurd (f.mpr ⟨m, .inl ⟨Nat.lt_of_succ_lt c, rfl, rfl⟩⟩) hn
  · cases m with
    | zero => exact .tail _ (.head _)
    | succ m => rw [Zge, Zge] at hn; exact absurd (f.mpr ⟨m, .inr ⟨Nat.lt_of_succ_lt c, rfl, rfl⟩⟩) hn
theorem Zma {h p q r : List Int} (nda : (h ++ p ++ q ++ r).Nodup) (ndb : (h ++ q ++ p ++ r).Nodup) (la : (h ++ p ++ q ++ r).length ≤ 900) (lb : (h ++ q ++ p ++ r).length ≤ 900) (hp : PJ (h ++ q ++ p ++ r) true = idxN (h ++ q ++ p ++ r)) : StepOK (h ++ p ++ q ++ r) (h ++ q ++ p ++ r) (if p.length ≥ q.length then q else p) := by
  have eq : q = ((h ++ p ++ q ++ r).drop (h.length + p.length)).take q.length := by
    rw [show h ++ p ++ q ++ r = (h ++ p) ++ (q ++ r) from by rw [List.append_assoc (h ++ p)], List.drop_left' (by rw [List.length_append]), List.take_left' rfl]
  have ep : p = ((h ++ p ++ q ++ r).drop h.length).take p.length := by
    rw [show h ++ p ++ q ++ r = h ++ (p ++ (q ++ r)) from by rw [List.append_assoc, List.append_assoc], List.drop_left' rfl, List.take_left' rfl]
  generalize ha : h ++ p ++ q ++ r = a at *
  generalize hb : h ++ q ++ p ++ r = b at *
  have f : ∀ {i j}, MP a b i j ↔ Mswp h.length p.length q.length r.length i j := Zoc ha.symm hb.symm ndb
  have starts : ∀ i j, MP a b i j → ¬ MP a b (i - 1) (j - 1) → i ∈ [0, (h.length : Int), ((h.length + p.length : Nat) : Int), ((h.length + p.length + q.length : Nat) : Int)] := fun i j k hn => by
    obtain ⟨m, ⟨c, rfl, rfl⟩ | ⟨c, rfl, rfl⟩ | ⟨c, rfl, rfl⟩ | ⟨c, rfl, rfl⟩⟩ := f.mp k
    · cases m with
      | zero => exact .head _
      | succ m => rw [Zk0] at hn; exact absurd (f.mpr ⟨m, .inl ⟨Nat.lt_of_succ_lt c, rfl, rfl⟩⟩) hn
    · cases m with
      | zero => exact .tail _ (.head _)
      | succ m => rw [Zge, Zge] at hn; exact absurd (f.mpr ⟨m, .inr (.inl ⟨Nat.lt_of_succ_lt c, rfl, rfl⟩)⟩) hn
    · cases m with
      | zero => exact .tail _ (.tail _ (.head _))
      | succ m => rw [Zge, Zge] at hn; exact absurd (f.mpr ⟨m, .inr (.inr (.inl ⟨Nat.lt_of_succ_lt c, rfl, rfl⟩))⟩) hn
    · cases m with
      | zero => exact .tail _ (.tail _ (.tail _ (.head _)))
      | succ m => rw [Zge] at hn; exact absurd (f.mpr ⟨m, .inr (.inr (.inr ⟨Nat.lt_of_succ_lt c, rfl, rfl⟩))⟩) hn
  by_cases hpq : p.length ≥ q.length
  · rw [if_pos hpq]
    refine Zhp (K := KO (MP a b) ((h.length + p.length : Nat) : Int) ((h.length + p.length + q.length : Nat) : Int)) la lb nda ndb (Gswp (fun a b => Znf ndb a b) (fun a b => Zne nda a b) f hpq) (Zii fun n hn => ?_) (fun i j k hn => starts i j k.1 hn) (by simp) hp
    have := Zk4 nda hn (h.length + p.length) q.length
    rwa [← eq, ← Int.natCast_add] at this
  · rw [if_neg hpq]
    refine Zhp (K := KO (MP a b) (h.length : Int) ((h.length + p.length : Nat) : Int)) la lb nda ndb (Zsc (fun a b => Znf ndb a b) (fun a b => Zne nda a b) f (Nat.lt_of_not_le hpq)) (Zii fun n hn => ?_) (fun i j k hn => starts i j k.1 hn) (by simp) hp
    have := Zk4 nda hn h.length p.length
    rwa [← ep, ← Int.natCast_add] at this
theorem Zl9 {h u r d : List Int} (hd : ∀ x, x ∈ d ↔ x ∈ u.drop 1) (nda : (h ++ u ++ r).Nodup) (ndb : (h ++ u.reverse ++ r).Nodup) (la : (h ++ u ++ r).length ≤ 900) (lb : (h ++ u.reverse ++ r).length ≤ 900) (hp : PJ (h ++ u.reverse ++ r) true = idxN (h ++ u.reverse ++ r)) : StepOK (h ++ u ++ r) (h ++ u.reverse ++ r) d := by
  have eu : u.drop 1 = ((h ++ u ++ r).drop (h.length + 1)).take (u.length - 1) := by
    have e1 : (h ++ u ++ r).drop (h.length + 1) = (u ++ r).drop 1 := by
      rw [List.append_assoc, ← List.drop_drop, List.drop_left' rfl]
    rw [e1]
    cases u with
    | nil => rfl
    | cons y u => exact (List.take_left' rfl).symm
  generalize ha : h ++ u ++ r = a at *
  generalize hb : h ++ u.reverse ++ r = b at *
  have f : ∀ {i j}, MP a b i j ↔ Mtrn h.length u.length r.length i j := Zn6 ha.symm hb.symm ndb
  refine Zhp (K := KO (MP a b) ((h.length + 1 : Nat) : Int) ((h.length + u.length : Nat) : Int)) (st := [0, (h.length : Int), ((h.length + u.length : Nat) : Int)]) la lb nda ndb (Gtrn (fun a b => Znf ndb a b) (fun a b => Zne nda a b) f) (Zii fun n hn => ?_) (fun i j k hn => ?_) (by simp) hp
  · have := Zk4 nda hn (h.length + 1) (u.length - 1)
    rw [← eu] at this
    rw [hd, this]
    lia
  · obtain ⟨k, kn⟩ := k
    obtain ⟨m, ⟨c, rfl, rfl⟩ | ⟨c, rfl, rfl⟩ | ⟨c, rfl, rfl⟩⟩ := f.mp k
    · cases m with
      | zero => exact .head _
      | succ m => rw [Zk0] at hn; exact absurd (f.mpr ⟨m, .inl ⟨Nat.lt_of_succ_lt c, rfl, rfl⟩⟩) hn
    · cases m with
      | zero => exact .tail _ (.head _)
      | succ m => exact absurd ⟨by lia, by lia⟩ kn
    · cases m with
      | zero => exact .tail _ (.tail _ (.head _))
      | succ m => rw [Zge] at hn; exact absurd (f.mpr ⟨m, .inr (.inr ⟨Nat.lt_of_succ_lt c, rfl, rfl⟩)⟩) hn
theorem Zns {a b drop : List Int} (S : Stp a b drop) (nda : a.Nodup) (ndb : b.Nodup) (la : a.length ≤ 900) (lb : b.length ≤ 900) (h1 : ∀ k, (idxN b k).length ≤ 1) : StepOK a b drop := by
  have hp := Zpw h1
  cases S with
  | dis h X Y r dj => exact Zoe dj nda ndb la lb hp
  | swap h p q r => exact Zma nda ndb la lb hp
  | turn h u r d hd => exact Zl9 hd nda ndb la lb hp
noncomputable abbrev lW (i : Nat) : Stmt := (kids (lS 3)).getD i (.Pass default)
noncomputable def hbF (hp : Hp) (L dx : Nat) : Hp := fun (z : Nat) => if z = L ∨ z = dx ∨ (L + 1 ≤ z ∧ z ≤ L + 5) then none else hp z
theorem Znw (hp : Hp) (L dx : Addr) : Hp.Le (hbF hp L dx) hp := fun z o e => by
  unfold hbF at e; split at e
  · cases e
  · exact e
theorem Zou {hp : Hp} {L dx z : Nat} {o : AO} (e : hp z = some o) (h1 : z ≠ L) (h2 : z ≠ dx) (h3 : ∀ j, 1 ≤ j → j ≤ 5 → z ≠ L + j) : hbF hp L dx z = some o := by
  unfold hbF
  rw [if_neg]
  · exact e
  · rintro (h | h | ⟨h, h'⟩)
    · exact h1 h
    · exact h2 h
    · exact h3 (z - L) (by lia) (by lia) (by lia)
theorem Zh5 (hp : Hp) (L dx : Nat) (j : Nat) (h1 : 1 ≤ j) (h2 : j ≤ 5) : hbF hp L dx (L + j) = none := by unfold hbF; rw [if_pos (.inr (.inr ⟨by lia, by lia⟩))]
theorem Zrv (hp : Hp) (L dx : Addr) : hbF hp L dx L = none := by unfold hbF; rw [if_pos (.inl rfl)]
theorem Zqe (hp : Hp) (L dx : Addr) : hbF hp L dx dx = none := by unfold hbF; rw [if_pos (.inr (.inl rfl))]
theorem Zkm {hp : Hp} {L dx z : Addr} {o : AO} (hdx : ∃ ma, hp dx = some (.atr ma)) (cs : ∀ j : Nat, 1 ≤ j → j ≤ 5 → ∃ v, hp (L + j) = some (.cell v)) (e : hp z = some o) (h1 : z ≠ L) (h2 : ∀ v, o ≠ .cell v) (h3 : ∀ ma, o ≠ .atr ma) : hbF hp L dx z = some o := by
  obtain ⟨ma, hd⟩ := hdx
  refine Zou e h1 (fun h => by rw [h, hd] at e; cases e; exact h3 _ rfl) fun j g1 g2 h => ?_
  obtain ⟨v, hc⟩ := cs j g1 g2
  rw [h, hc] at e; cases e
  exact h2 _ rfl
theorem MT.moveO {hp hp' : Hp} {L x dx : Addr} {a b : AV} {bs : List Int} {aj : Bool} {mb op : AV} (M : MT hp L x dx a b bs aj mb op) (h : ∀ z o, hp z = some o → (∀ v, o ≠ .cell v) → (∀ ob, o = .obj ob → z = x) → hp' z = some o) : MT hp' L x dx a b bs aj mb op := by
  refine hide fun Gq kq => ?_
  obtain ⟨ma, d, j, I, F, R, hj, hjL⟩ := M.ex
  obtain ⟨kvs, h1, h2, h3, h4⟩ := R.ex
  refine kq ?_; clear kq Gq
  refine ⟨ma, d, j, ⟨h _ _ I.ob (by simp) (fun _ _ => rfl), h _ _ I.at_ (by simp) (by simp), I.xL, I.dL⟩, F, ⟨kvs, h _ _ h1 (by simp) (by simp), h2, h3, fun k v hk => ?_⟩, h _ _ hj (by simp) (by simp), hjL⟩
  refine hide fun Gq kq => ?_
  obtain ⟨a, e, ha, haL⟩ := h4 k v hk
  refine kq ?_; clear kq Gq
  exact ⟨a, e, h _ _ ha (by simp) (by simp), haL⟩
theorem IT.move {hb hp hp' : Hp} {L aT aL aR aD x dx aN : Addr} {wy : Nat} {N : List Int} {av bv : AV} {m : Loc} (T : IT hb L aT aL aR aD x dx wy aN N av bv m hp) (h : ∀ z o, hp z = some o → (∀ ob, o = .obj ob → z = x ∨ hb z = some o) → hp' z = some o) : IT hb L aT aL aR aD x dx wy aN N av bv m hp' := by
  refine hide fun Gq kq => ?_
  obtain ⟨t1, t2, t3, t4, t5, t6, t7, t8, t9, t10, ⟨v3, t11⟩, ⟨v4, t12⟩, ⟨v5, t13⟩, ⟨bs, mb, op, M⟩⟩ := T
  refine kq ?_; clear kq Gq
  exact ⟨t1, t2, t3, t4, t5, t6, fun z o e => h z o (t7 z o e) fun ob _ => .inr e, h _ _ t8 (by simp), h _ _ t9 (by simp), t10, ⟨v3, h _ _ t11 (by simp)⟩, ⟨v4, h _ _ t12 (by simp)⟩, ⟨v5, h _ _ t13 (by simp)⟩, ⟨bs, mb, op, M.moveO fun z o e _ ho => h z o e fun ob eo => .inl (ho ob eo)⟩⟩
theorem IT.up {hb hp hp' : Hp} {L aT aL aR aD x dx aN : Addr} {wy : Nat} {N : List Int} {av bv : AV} {m : Loc} (T : IT hb L aT aL aR aD x dx wy aN N av bv m hp) (h : Hp.Le hp hp') : IT hb L aT aL aR aD x dx wy aN N av bv m hp' := T.move fun z o e _ => h z o e
theorem IT.del {hb hp : Hp} {L aT aL aR aD x dx aN it : Addr} {wy : Nat} {N : List Int} {av bv : AV} {m : Loc} {ob : Obj} (T : IT hb L aT aL aR aD x dx wy aN N av bv m hp) (h1 : hp it = some (.obj ob)) (h2 : hb it = none) (h3 : x ≠ it) : IT hb L aT aL aR aD x dx wy aN N av bv m (hp.del it) := T.move fun z o e ho => by
  rw [Hp.del_ne _ fun h => ?_]
  · exact e
  · rw [h, h1] at e; cases e
    rcases ho ob rfl with hx | hx
    · exact h3 (hx.symm.trans h)
    · rw [h, h2] at hx; cases hx
theorem IT.v {hb hp : Hp} {L aT aL aR aD x dx aN : Addr} {wy : Nat} {N : List Int} {av bv : AV} {m : Loc} {v₀ v : Option AV} (T : IT hb L aT aL aR aD x dx wy aN N av bv m hp) (h1 : hp (L + 2) = some (.cell v₀)) (h2 : hb (L + 2) = none) : IT hb L aT aL aR aD x dx wy aN N av bv m (hp.set (L + 2) (.cell v)) := by
  refine hide fun Gq kq => ?_
  obtain ⟨t1, t2, t3, t4, t5, t6, t7, t8, t9, t10, ⟨v3, t11⟩, ⟨v4, t12⟩, ⟨v5, t13⟩, ⟨bs, mb, op, M⟩⟩ := T
  refine kq ?_; clear kq Gq
  have k : ∀ z o, hp z = some o → (∀ v, o ≠ .cell v) → (hp.set (L + 2) (.cell v)) z = some o := fun z o e ho => by
    rw [Hp.sn _ _ fun h => by rw [h, h1] at e; cases e; exact ho _ rfl]; exact e
  exact ⟨t1, t2, t3, t4, t5, t6, t7.set h2 _, Hp.snt (by simp) t8, k _ _ t9 (by simp), t10, ⟨v3, Hp.snt (by simp) t11⟩, ⟨v4, Hp.snt (by simp) t12⟩, ⟨v5, Hp.snt (by simp) t13⟩, ⟨bs, mb, op, M.moveO fun z o e ho _ => k z o e ho⟩⟩
structure WD (hp : Hp) (L aR aD : Addr) (wy n : Nat) (rws : List Addr) (ds : List (Addr × Addr)) (vs dr : Nat → List Int) : Prop where
  R : hp aR = some (.list (rws.map .ref))
  RL : aR ≠ L
  D : hp aD = some (.list (ds.map dAV))
  DL : aD ≠ L
  lr : rws.length = n + 1
  ld : ds.length = n
  nd : rws.Nodup
  v : ∀ i a, rws[i]? = some a → hp a = some (.list (iL (vs i))) ∧ a ≠ L
  d : ∀ i p, ds[i]? = some p → hp (if wy = 0 then p.1 else p.2) = some (.list (iL (dr i))) ∧ (if wy = 0 then p.1 else p.2) ≠ L
  K : ∀ i, i < n → StepOK (vs i) (vs (i + 1)) (dr i)
section
variable {A : Around} {m : Loc} {hp : Hp} {L aT aL aR aD x dx aN : Addr} {wy n : Nat} {N : List Int} {av bv : AV} {rws : List Addr} {ds : List (Addr × Addr)} {vs dr : Nat → List Int} {Q : AF → Loc → Hp → Prop}
theorem IT.cs {hb : Hp} {m : Loc} (T : IT hb L aT aL aR aD x dx wy aN N av bv m hp) (c2 : ∃ v, hp (L + 2) = some (.cell v)) (j : Nat) (h1 : 1 ≤ j) (h2 : j ≤ 5) : ∃ v, hp (L + j) = some (.cell v) := by
  rcases Nat.lt_or_eq_of_le h2 with h | rfl
  · rcases Nat.lt_or_eq_of_le (Nat.le_of_lt_succ h) with h | rfl
    · rcases Nat.lt_or_eq_of_le (Nat.le_of_lt_succ h) with h | rfl
      · rcases Nat.lt_or_eq_of_le (Nat.le_of_lt_succ h) with h | rfl
        · rw [Nat.le_antisymm (Nat.le_of_lt_succ h) h1]; exact ⟨_, T.c1⟩
        · exact c2
      · exact T.c3
    · exact T.c4
  · exact T.c5
theorem Zrw (G : Gnd (KW W0) B0) (hh : A.handled = none) (hu : A.units + 80 < cLine) (hroom : A.depth + 7 < recursionLimit) (hn0 : 0 < n) (hn : n < 1000) (hwy : wy = 0 ∨ wy = 1) (W : WD hp L aR aD wy n rws ds vs dr)
    (T : IT (hbF hp L dx) L aT aL aR aD x dx wy aN N av bv m hp) (hN : N.length = (vs 0).length) (c2 : ∃ v, hp (L + 2) = some (.cell v))
    (n1 : ∀ ro, rws[0]? = some ro → NotIs B0 (hbF hp L dx) L (.ref ro) av) (n2 : ∀ rn, rws[1]? = some rn → NotIs B0 (hbF hp L dx) L (.ref rn) bv)
    (h : ∀ m' hp' aN' N' ra rb, IT (hbF hp L dx) L aT aL aR aD x dx wy aN' N' (.ref ra) (.ref rb) m' hp' → (∃ v, hp' (L + 2) = some (.cell v)) → rws[n - 1]? = some ra → rws[n]? = some rb → Q .next m' hp') :
    EX (model PW W0) B0 E0 A (lEnv L) (lW 3) m hp Q := by
  have lr := W.lr
  have ld := W.ld
  obtain ⟨bs0, mb0, op0, M0⟩ := id T.M
  have hst : ∀ {z : Addr} {ys : List AV}, hp z = some (.list ys) → z ≠ L → hbF hp L dx z = some (.list ys) := fun {z} {ys} e hz => Zkm (by obtain ⟨ma, d', j', I', _⟩ := M0.ex; exact ⟨_, I'.at_⟩) (T.cs c2) e hz (by simp) (by simp)
  have hxo : ∃ ob, hp x = some (.obj ob) := by obtain ⟨ma, d', j', I', _⟩ := M0.ex; exact ⟨_, I'.ob⟩
  refine Zlo hh (Zc0 (Zay G (Zcw W0) Zci (by decide) (fun _ => Zdl) ⟨rfl, Zab (Zaj (Zab (Za1 (Zay G (Zbz W0) Zbj (by decide) (fun _ => Zct) ⟨rfl, Zab (Zaa T.r (Zae (Zcb (.own W.R W.RL) (by rw [List.length_map]; exact sz' (by lia)) ?_)))⟩))))⟩))
  refine Zae (Zet fun rg rob hrg hrgL ro => ?_)
  rw [List.length_map] at ro
  refine ⟨rg, rob, 1, rws.length, rfl, Hp.ss .., hrgL, ro, by decide, by decide, by (exact Int.natCast_nonneg _), by lia, fun it hit hitL => ?_⟩
  have lg : Hp.Le hp (hp.set rg (.obj rob)) := (Hp.Le.refl _).set hrg _
  have hit0 : hp it = none := lg.none hit
  have hbit : hbF hp L dx it = none := (Znw hp L dx).none hit0
  have hxit : x ≠ it := by obtain ⟨ob, e⟩ := hxo; exact Hp.ne_of e hit0
  have hdit : it ≠ dx := by obtain ⟨ma, d', j', I', _⟩ := M0.ex; exact (Hp.ne_of I'.at_ hit0).symm
  have hcnt : ((rws.length : Int) - 1).toNat = n := by lia
  rw [hcnt]
  let Iq : Nat → Loc → Hp → Prop := fun i m₂ hp₂ => ∃ hp₀ ob aN' N' av' bv', hp₂ = hp₀.set it (.obj ob) ∧ hp₀ it = none ∧ IT (hbF hp L dx) L aT aL aR aD x dx wy aN' N' av' bv' m₂ hp₀ ∧ N'.length = (vs i).length ∧ (∃ v, hp₀ (L + 2) = some (.cell v)) ∧ ((i = 0 ∧ av' = av ∧ bv' = bv) ∨ ∃ ra rb, 0 < i ∧ av' = .ref ra ∧ bv' = .ref rb ∧ rws[i - 1]? = some ra ∧ rws[i]? = some rb)
  refine ⟨Iq,
    fun ob => ⟨_, ob, aN, N, av, bv, rfl, hit, T.up lg, hN, c2.imp fun _ e => lg _ _ e, .inl ⟨rfl, rfl, rfl⟩⟩, fun i m₂ hp₂ ob I => ?_, fun i m₂ hp₂ ob hi I hob => ?_, fun m₂ hp₂ I => ?_⟩
  · refine hide fun Gq kq => ?_
    obtain ⟨hp₀, ob0, aN', N', av', bv', rfl, e, r⟩ := I
    refine kq ?_; clear kq Gq
    exact ⟨hp₀, ob, aN', N', av', bv', Hp.set_set .., e, r⟩
  · refine hide fun Gq kq => ?_
    obtain ⟨hp₀, ob0, aN', N', av', bv', rfl, e0, T', hN', ⟨v, c2''⟩, hab⟩ := I
    refine kq ?_; clear kq Gq
    rw [Hp.ss] at hob; cases hob
    have l0 : Hp.Le hp₀ (hp₀.set it (.obj ob)) := (Hp.Le.refl _).set e0 _
    refine Zf0 (c := L + 2) rfl (l0 _ _ c2'') (show L + 2 ≠ L by simp) ?_
    refine hide fun Gq kq => ?_
    have T2 := (T'.up l0).v (v := some (.int (1 + i))) (l0 _ _ c2'') (Zh5 hp L dx 2 (by decide) (by decide))
    have itc : it ≠ L + 2 := (Hp.ne_of c2'' e0).symm
    have hit2 : ((hp₀.set it (.obj ob)).set (L + 2) (.cell (some (.int (1 + i))))) it = some (.obj ob) := Hp.snt itc (Hp.ss ..)
    obtain ⟨r0, hr0⟩ : ∃ x, rws[i]? = some x := ⟨_, List.getElem?_eq_getElem (by lia)⟩
    obtain ⟨r1, hr1⟩ : ∃ x, rws[i + 1]? = some x := ⟨_, List.getElem?_eq_getElem (by lia)⟩
    obtain ⟨pd, hpd⟩ : ∃ x, ds[i]? = some x := ⟨_, List.getElem?_eq_getElem (by lia)⟩
    obtain ⟨a1, a2⟩ := W.v i r0 hr0
    obtain ⟨b1, b2⟩ := W.v (i + 1) r1 hr1
    obtain ⟨d1, d2⟩ := W.d i pd hpd
    refine kq ?_; clear kq Gq
    have other : ∀ {p q : Nat} {u v : Addr}, rws[p]? = some u → rws[q]? = some v → p ≠ q → NotIs B0 (hbF hp L dx) L (.ref u) (.ref v) := fun {p q u v} hp' hq hne => by
      obtain ⟨x1, x2⟩ := W.v p u hp'
      obtain ⟨y1, y2⟩ := W.v q v hq
      refine .inr ⟨u, rfl, .inr (.inr ⟨v, _, _, rfl, .own (hst y1 y2) y2, .own (hst x1 x2) x2, fun e => hne ?_⟩)⟩
      obtain ⟨g1, e1⟩ := List.getElem?_eq_some_iff.mp hp'
      obtain ⟨g2, e2⟩ := List.getElem?_eq_some_iff.mp hq
      exact (List.getElem_inj (h₀ := g1) (h₁ := g2) W.nd).mp (by rw [e1, e2]; first | exact e | exact e.symm)
    refine Zix (rws := rws) (ds := ds) G hh hu hroom (Zh5 hp L dx) (Zqe ..) (Zrv ..) (hst W.R W.RL) W.RL (hst W.D W.DL) W.DL hr0 hr1 hpd hwy (hst a1 a2) a2 (hst b1 b2) b2 (hst d1 d2) d2 (by (exact Nat.lt_trans (by assumption) (by assumption))) (W.K i hi) T2 hN' (Hp.ss ..) ?_ ?_ hit2 hbit hitL hdit fun m' hp' aN2 T3 c3 hit3 => ?_
    · rcases hab with ⟨rfl, rfl, rfl⟩ | ⟨ra, rb, hi0, rfl, rfl, e1, e2⟩
      · exact n1 _ hr0
      · exact other hr0 e1 (by lia)
    · rcases hab with ⟨rfl, rfl, rfl⟩ | ⟨ra, rb, hi0, rfl, rfl, e1, e2⟩
      · exact n2 _ hr1
      · exact other hr1 e2 (by (exact Nat.succ_ne_self _))
    · refine ⟨⟨hp'.del it, ob, aN2, _, _, _, ?_, by simp [Hp.del], T3.del hit3 hbit hxit, ?_, ?_, .inr ⟨r0, r1, by (exact Nat.succ_pos _), rfl, rfl, hr0, hr1⟩⟩, hit3⟩
      · funext z
        by_cases hz : z = it
        · rw [hz, Hp.ss, hit3]
        · rw [Hp.sn _ _ hz, Hp.del_ne _ hz]
      · unfold dueF; rw [List.length_map]
      · refine hide fun Gq kq => ?_
        obtain ⟨v, e⟩ := c3
        refine kq ?_; clear kq Gq
        exact ⟨v, by rw [Hp.del_ne _ itc.symm]; exact e⟩
  · refine hide fun Gq kq => ?_
    obtain ⟨hp₀, ob0, aN', N', av', bv', rfl, e0, T', hN', hc, hab⟩ := I
    refine kq ?_; clear kq Gq
    have e : (hp₀.set it (.obj ob0)).del it = hp₀ := by
      funext z
      by_cases hz : z = it
      · rw [hz, e0]; simp [Hp.del]
      · rw [Hp.del_ne _ hz, Hp.sn _ _ hz]
    rw [e]
    rcases hab with ⟨rfl, _⟩ | ⟨ra, rb, hi0, rfl, rfl, e1, e2⟩
    · (exact absurd (by assumption) (Nat.lt_irrefl _))
    · exact h _ _ _ _ ra rb T' hc e1 e2
end
noncomputable def NI (n : Nat) (rs : List Addr) (k : Nat) (av bv : AV) : Prop :=
  if k = 0 then av = .str (S "") ∧ bv = .str (S "") else k = 1 → ∃ ra rb, av = .ref ra ∧ bv = .ref rb ∧ rs[n - 1]? = some ra ∧ rs[n]? = some rb
structure WS (xs : List Int) (n : Nat) (L aT aL x dx : Addr) (rs : List Addr) (bc : List (Addr × Addr)) (k : Nat) (m : Loc) (hp : Hp) : Prop where
  t : m (S "texts") = some (.ref aT)
  l : m (S "lost") = some (.ref aL)
  mm : m (S "matcher") = some (.ref x)
  A : LA xs n L aT aL rs bc hp
  c : ∀ j : Nat, 1 ≤ j → j ≤ 5 → ∃ v, hp (L + j) = some (.cell v)
  M : ∃ bs mb op av bv, MT hp L x dx av bv bs true mb op ∧ NI n rs k av bv
theorem WS.move {xs : List Int} {n : Nat} {L aT aL x dx : Addr} {rs : List Addr} {bc : List (Addr × Addr)} {k : Nat} {m m' : Loc} {hp hp' : Hp} (W : WS xs n L aT aL x dx rs bc k m hp) (t : m' (S "texts") = some (.ref aT)) (l : m' (S "lost") = some (.ref aL)) (mm : m' (S "matcher") = some (.ref x))
    (h : ∀ z o, hp z = some o → (∀ ob, o = .obj ob → z = x) → hp' z = some o) : WS xs n L aT aL x dx rs bc k m' hp' := by
  refine hide fun Gq kq => ?_
  obtain ⟨_, _, _, A, c, ⟨bs, mb, op, av, bv, M, ni⟩⟩ := W
  refine kq ?_; clear kq Gq
  exact ⟨t, l, mm, A.move fun z ys e _ => h z _ e (by simp), fun j h1 h2 => by obtain ⟨v, e⟩ := c j h1 h2; exact ⟨v, h _ _ e (by simp)⟩, bs, mb, op, av, bv, M.moveO fun z o e _ ho => h z o e ho, ni⟩
noncomputable def vsF (xs : List Int) (n wy i : Nat) : List Int := (verT xs (if wy = 0 then i else n - i)).1
noncomputable def drF (xs : List Int) (n wy i : Nat) : List Int := if wy = 0 then (verD xs i).1 else (verD xs (n - 1 - i)).2
theorem Zpn (xs : List Int) {n wy i : Nat} (hn : n ≤ 68) (hi : i < n) : StepOK (vsF xs n wy i) (vsF xs n wy (i + 1)) (drF xs n wy i) := by
  have ok : ∀ k, k ≤ 68 → (verT xs k).1.Nodup ∧ (verT xs k).1.length ≤ 900 := fun k hk => by
    obtain ⟨T, -, -, l⟩ := Zdq xs k
    exact ⟨T.nd, by lia⟩
  unfold vsF drF
  by_cases hw : wy = 0
  · rw [if_pos hw, if_pos hw, if_pos hw]
    exact Zns (Zho xs i).1 (ok i (by lia)).1 (ok (i + 1) (by (exact Nat.lt_of_lt_of_le (by assumption) (by assumption)))).1 (ok i (by lia)).2 (ok (i + 1) (by (exact Nat.lt_of_lt_of_le (by assumption) (by assumption)))).2 (Zfo (ok (i + 1) (by (exact Nat.lt_of_lt_of_le (by assumption) (by assumption)))).1)
  · rw [if_neg hw, if_neg hw, if_neg hw]
    have e : n - i = n - 1 - i + 1 := by lia
    have e2 : n - (i + 1) = n - 1 - i := by lia
    rw [e, e2]
    exact Zns (Zho xs (n - 1 - i)).2 (ok _ (by lia)).1 (ok _ (by lia)).1 (ok _ (by lia)).2 (ok _ (by lia)).2 (Zfo (ok _ (by lia)).1)
section
variable {A : Around} {m : Loc} {hp : Hp} {L aT aL x dx : Addr} {wy n : Nat} {xs : List Int} {rs : List Addr} {bc : List (Addr × Addr)} {Q : AF → Loc → Hp → Prop}
theorem rowI {α : Type} (xs : List α) {k i wy : Nat} (hl : xs.length = k) (hi : i < k) : (if wy = 0 then xs else xs.reverse)[i]? = xs[if wy = 0 then i else k - 1 - i]? := by
  by_cases hw : wy = 0
  · rw [if_pos hw, if_pos hw]
  · rw [if_neg hw, if_neg hw, List.getElem?_reverse (by lia), hl]
theorem Zn2 (xs : List Int) {n wy : Nat} (hn : n ≤ 68) : (vsF xs n wy 0).length ≤ 300 := by
  have := (Zdq xs (if wy = 0 then 0 else n - 0)).2.2.2
  unfold vsF
  split at this <;> rename_i hw <;> simp only [hw, if_true, if_false] at * <;> lia
theorem NI.is {hb : Hp} {L : Addr} {av bv : AV} (hwy : wy = 0 ∨ wy = 1) (hn0 : 0 < n) (lr : rs.length = n + 1) (ni : NI n rs wy av bv) (other : ∀ {p q : Nat} {u v : Addr}, rs[p]? = some u → rs[q]? = some v → p ≠ q → NotIs B0 hb L (.ref u) (.ref v)) :
    (∀ ro, (if wy = 0 then rs else rs.reverse)[0]? = some ro → NotIs B0 hb L (.ref ro) av) ∧ ∀ rn, (if wy = 0 then rs else rs.reverse)[1]? = some rn → NotIs B0 hb L (.ref rn) bv := by
  unfold NI at ni
  rcases hwy with rfl | rfl
  · rw [if_pos rfl] at ni
    obtain ⟨rfl, rfl⟩ := ni
    exact ⟨fun ro _ => .inr ⟨ro, rfl, .inr (.inl ⟨_, rfl⟩)⟩, fun ro _ => .inr ⟨ro, rfl, .inr (.inl ⟨_, rfl⟩)⟩⟩
  · rw [if_neg (by decide)] at ni
    obtain ⟨ra, rb, rfl, rfl, e1, e2⟩ := ni rfl
    refine ⟨fun ro e => ?_, fun ro e => ?_⟩
    · rw [rowI rs lr (by (exact Nat.succ_pos _)), if_neg (by decide)] at e
      exact other e e1 (by lia)
    · rw [rowI rs lr (by lia), if_neg (by decide)] at e
      exact other e e2 (by lia)
theorem Zl3 (hwy : wy = 0 ∨ wy = 1) (hn : n ≤ 68) (W : LA xs n L aT aL rs bc hp) (t1 : m (S "texts") = some (.ref aT)) (t2 : m (S "lost") = some (.ref aL)) (t3 : m (S "way") = some (.int wy)) {rest : List Stmt}
    (h : ∀ m' hp' aR aD, Hp.Le hp hp' → m' = upd (upd m (S "row") (.ref aR)) (S "drops") (.ref aD) → hp' aR = some (.list ((if wy = 0 then rs else rs.reverse).map .ref)) → aR ≠ L → hp' aD = some (.list ((if wy = 0 then bc else bc.reverse).map dAV)) → aD ≠ L →
      EXs (model PW W0) B0 E0 A (lEnv L) rest m' hp' Q) :
    EXs (model PW W0) B0 E0 A (lEnv L) (lW 0 :: lW 1 :: rest) m hp Q := by
  have lr := W.lr
  have lb := W.lb
  refine Zac ?_
  refine Zao (Zca (Zad (Zaa t3 (Zaj (Zco (Zaf ?_))))))
  rcases hwy with rfl | rfl
  · have t3' : m (S "way") = some (.int 0) := t3
    refine iteT rfl (Zaa t1 ?_)
    refine Zac ?_
    refine Zao (Zca (Zad (Zaa (v := .int 0) (by first | assumption | rfl) (Zaj (Zco (Zaf ?_))))))
    exact iteT rfl (Zaa (v := .ref aL) (by first | assumption | rfl) (h _ _ aT aL (.refl _) rfl (by rw [if_pos rfl]; exact W.T) W.nT (by rw [if_pos rfl]; exact W.D) W.nD))
  · have t3' : m (S "way") = some (.int 1) := t3
    refine iteF rfl (Zer (Zaa t1 (Zgx (Zaj ⟨1, rfl, ⟨aT, _, rfl, rfl, .own W.T W.nT, by rw [List.length_map]; lia, fun aR hR hRL => ?_⟩⟩))))
    have l1 : Hp.Le hp (hp.set aR (.list (rs.map AV.ref).reverse)) := (Hp.Le.refl _).set hR _
    refine Zac ?_
    refine Zao (Zca (Zad (Zaa (v := .int 1) (by first | assumption | rfl) (Zaj (Zco (Zaf ?_))))))
    refine iteF rfl (Zer (Zaa (v := .ref aL) (by first | assumption | rfl) (Zgx (Zaj ⟨1, rfl, ⟨aL, _, rfl, rfl, .own (l1 _ _ W.D) W.nD, by rw [List.length_map]; lia, fun aD hD hDL => ?_⟩⟩))))
    have l2 := l1.set (l1.none hD) (.list (bc.map dAV).reverse)
    refine h _ _ aR aD l2 rfl ?_ hRL ?_ hDL
    · rw [if_neg (by decide), Hp.sn _ _ (Hp.ne_of (Hp.ss ..) hD), Hp.ss, List.map_reverse]
    · rw [if_neg (by decide), Hp.ss, List.map_reverse]
theorem Zl2 (G : Gnd (KW W0) B0) (hh : A.handled = none) (hu : A.units + 80 < cLine) (hroom : A.depth + 7 < recursionLimit) (hwy : wy = 0 ∨ wy = 1) (hn : n ≤ 68) (hn0 : 0 < n) (W : WS xs n L aT aL x dx rs bc wy m hp) (t3 : m (S "way") = some (.int wy))
    {it : Addr} {ob : Obj} (hit : hp it = some (.obj ob)) (hitL : it ≠ L)
    (h : ∀ m' hp', WS xs n L aT aL x dx rs bc (wy + 1) m' hp' → hp' it = some (.obj ob) → Q .next m' hp') :
    EXs (model PW W0) B0 (fun _ _ => False) A (lEnv L) [lW 0, lW 1, lW 2, lW 3] m hp Q := by
  have lr := W.A.lr
  have lb := W.A.lb
  refine Zl3 hwy hn W.A W.t W.l t3 fun m' hp1 aR aD le1 hm hR hRL hD hDL => ?_
  have s1 : m' (S "row") = some (.ref aR) := by subst hm; (first | assumption | rfl)
  have s2 : m' (S "drops") = some (.ref aD) := by subst hm; (first | assumption | rfl)
  have s3 : m' (S "way") = some (.int wy) := by rw [← t3]; subst hm; (first | assumption | rfl)
  have s4 : m' (S "texts") = some (.ref aT) := by rw [← W.t]; subst hm; (first | assumption | rfl)
  have s5 : m' (S "lost") = some (.ref aL) := by rw [← W.l]; subst hm; (first | assumption | rfl)
  have s6 : m' (S "matcher") = some (.ref x) := by rw [← W.mm]; subst hm; (first | assumption | rfl)
  have W1 := W.move s4 s5 s6 fun z o e _ => le1 z o e
  have hit1 := le1 _ _ hit
  clear hm le1 W t3 hit
  have hrl : (if wy = 0 then rs else rs.reverse).length = n + 1 := by split <;> simp [lr]
  have hdl : (if wy = 0 then bc else bc.reverse).length = n := by split <;> simp [lb]
  have hrg : ∀ i, i < n + 1 → (if wy = 0 then rs else rs.reverse)[i]? = rs[if wy = 0 then i else n - i]? := fun i hi => rowI rs lr hi
  have hdg : ∀ i, i < n → (if wy = 0 then bc else bc.reverse)[i]? = bc[if wy = 0 then i else n - 1 - i]? := fun i hi => rowI bc lb hi
  have hnd : (if wy = 0 then rs else rs.reverse).Nodup := by
    split
    · exact W1.A.nd
    · exact (List.reverse_perm rs).nodup_iff.mpr W1.A.nd
  obtain ⟨r0, hr0⟩ : ∃ r, (if wy = 0 then rs else rs.reverse)[0]? = some r := ⟨_, List.getElem?_eq_getElem (by lia)⟩
  have vr := W1.A.vr _ r0 (by rw [← hrg 0 (by (exact Nat.succ_pos _))]; exact hr0)
  have vl : (vsF xs n wy 0).length ≤ 300 := Zn2 xs hn
  have vr1 : hp1 r0 = some (.list (iL (vsF xs n wy 0))) := vr.1
  have vr2 := vr.2.1
  clear vr
  refine Zac ?_
  obtain ⟨v1, c1⟩ := W1.c 1 (by decide) (by decide)
  refine Zdu (c := L + 1) rfl (show L + 1 ≠ L by simp) ?_
  refine Zg1 (e := fun _ => .int 0) (cl := []) hh rfl (by decide) (by decide) (fun _ => rfl) (Zam (Zaa s1 (Zaj (Zaw (x := .ref r0) (.own hR hRL) (by decide) (by decide) (by rw [List.getElem?_map]; show Option.map _ ((if wy = 0 then rs else rs.reverse)[0]?) = _; rw [hr0]; rfl) ?_))))
  refine ⟨r0, _, rfl, .own vr1 vr2, by rw [List.length_map]; (exact Nat.le_trans (by assumption) (by decide)), fun C m₂ hp₂ v _ _ _ _ _ => Zaj ⟨rfl, .refl _⟩, fun aN hN hNL => ⟨v1, ?_, ?_⟩⟩
  · exact Hp.snt (Hp.ne_of c1 hN) c1
  have en : (iL (vsF xs n wy 0)).map (fun _ => AV.int 0) = iL ((vsF xs n wy 0).map fun _ => 0) := by unfold iL; rw [List.map_map, List.map_map]; rfl
  rw [en]
  have k1 : ∀ z o, hp1 z = some o → (∀ v, o ≠ .cell v) → ((hp1.set aN (.list (iL ((vsF xs n wy 0).map fun _ => 0)))).set (L + 1) (.cell (some (.ref aN)))) z = some o := fun z o e ho => by
    exact Hp.snt (fun h => by rw [h, c1] at e; cases e; exact ho _ rfl) (Hp.snt (Hp.ne_of e hN) e)
  have nc1 : aN ≠ L + 1 := (Hp.ne_of c1 hN).symm
  have hN2 : ((hp1.set aN (.list (iL ((vsF xs n wy 0).map fun _ => 0)))).set (L + 1) (.cell (some (.ref aN)))) aN = some (.list (iL ((vsF xs n wy 0).map fun _ => 0))) := Hp.snt nc1 (Hp.ss ..)
  have hc1 : ((hp1.set aN (.list (iL ((vsF xs n wy 0).map fun _ => 0)))).set (L + 1) (.cell (some (.ref aN)))) (L + 1) = some (.cell (some (.ref aN))) := Hp.ss ..
  have cs : ∀ j : Nat, 1 ≤ j → j ≤ 5 → ∃ v, ((hp1.set aN (.list (iL ((vsF xs n wy 0).map fun _ => 0)))).set (L + 1) (.cell (some (.ref aN)))) (L + j) = some (.cell v) := fun j h1 h2 => by
    by_cases hj : j = 1
    · subst hj; exact ⟨_, hc1⟩
    · obtain ⟨v, e⟩ := W1.c j h1 h2
      exact ⟨v, Hp.snt (fun h => hj (Nat.add_left_cancel h)) (Hp.snt (Hp.ne_of e hN) e)⟩
  have A2 := W1.A.move fun z ys e _ => k1 z _ e (by simp)
  have hR2 := k1 _ _ hR (by simp)
  have hD2 := k1 _ _ hD (by simp)
  have hit2 := k1 _ _ hit1 (by simp)
  obtain ⟨bs, mb, op, av, bv, M1, ni⟩ := W1.M
  have M2 := M1.moveO fun z o e ho _ => k1 z o e ho
  generalize (hp1.set aN (.list (iL ((vsF xs n wy 0).map fun _ => 0)))).set (L + 1) (.cell (some (.ref aN))) = hp2 at hN2 hc1 cs A2 hR2 hD2 hit2 M2 ⊢
  clear k1 W1 M1 c1 hN en hit1 hR hD vr1
  have WD2 : WD hp2 L aR aD wy n (if wy = 0 then rs else rs.reverse) (if wy = 0 then bc else bc.reverse) (vsF xs n wy) (drF xs n wy) := by
    refine ⟨hR2, hRL, hD2, hDL, hrl, hdl, hnd, fun i a e => ?_, fun i p e => ?_, fun i hi => Zpn xs hn hi⟩
    · have hi : i < n + 1 := by rw [← hrl]; exact (List.getElem?_eq_some_iff.mp e).1
      rw [hrg i hi] at e
      obtain ⟨y1, y2, -⟩ := A2.vr _ a e
      exact ⟨y1, y2⟩
    · have hi : i < n := by rw [← hdl]; exact (List.getElem?_eq_some_iff.mp e).1
      rw [hdg i hi] at e
      obtain ⟨y1, y2, y3, y4⟩ := A2.vb _ p e
      unfold drF
      by_cases hw : wy = 0
      · simp only [hw, if_true] at y1 ⊢; exact ⟨y1, y3.1⟩
      · simp only [hw, if_false] at y2 ⊢; exact ⟨y2, y4.1⟩
  have hdx : ∃ ma, hp2 dx = some (.atr ma) := by obtain ⟨ma, d', j', I', _⟩ := M2.ex; exact ⟨_, I'.at_⟩
  have hst : ∀ {z : Addr} {ys : List AV}, hp2 z = some (.list ys) → z ≠ L → hbF hp2 L dx z = some (.list ys) := fun {z} {ys} e hz => Zkm hdx cs e hz (by simp) (by simp)
  have hitb := Zkm hdx cs hit2 hitL (by simp) (by simp)
  have other : ∀ {p q : Nat} {u v : Addr}, rs[p]? = some u → rs[q]? = some v → p ≠ q → NotIs B0 (hbF hp2 L dx) L (.ref u) (.ref v) := fun {p q u v} hp' hq hne => by
    obtain ⟨x1, x2, -⟩ := A2.vr p u hp'
    obtain ⟨y1, y2, -⟩ := A2.vr q v hq
    refine .inr ⟨u, rfl, .inr (.inr ⟨v, _, _, rfl, .own (hst y1 y2) y2, .own (hst x1 x2) x2, fun e => hne ?_⟩)⟩
    obtain ⟨g1, e1⟩ := List.getElem?_eq_some_iff.mp hp'
    obtain ⟨g2, e2⟩ := List.getElem?_eq_some_iff.mp hq
    exact (List.getElem_inj (h₀ := g1) (h₁ := g2) A2.nd).mp (by rw [e1, e2]; exact e)
  have hni := NI.is hwy hn0 lr ni other
  refine Zac (Zrw G hh hu hroom hn0 (by (exact Nat.lt_of_le_of_lt (by assumption) (by decide))) hwy WD2 ⟨s1, s2, s3, s6, s4, s5, Znw hp2 L dx, hc1, hN2, hNL, cs 3 (by decide) (by decide), cs 4 (by decide) (by decide), cs 5 (by decide) (by decide), ⟨bs, mb, op, M2⟩⟩ (by rw [List.length_map]) (cs 2 (by decide) (by decide)) hni.1 hni.2 fun m3 hp3 aN' N' ra rb T3 c2 e1 e2 => Zag (h _ _ ?_ (T3.le _ _ hitb)))
  obtain ⟨bs3, mb3, op3, M3⟩ := T3.M
  refine ⟨T3.t, T3.l, T3.x, A2.move fun z ys e hz => T3.le _ _ (hst e hz), fun j h1 h2 => ?_, bs3, mb3, op3, _, _, M3, ?_⟩
  · have : j = 1 ∨ j = 2 ∨ j = 3 ∨ j = 4 ∨ j = 5 := by lia
    rcases this with rfl | rfl | rfl | rfl | rfl
    · exact ⟨_, T3.c1⟩
    · exact c2
    · exact T3.c3
    · exact T3.c4
    · exact T3.c5
  · unfold NI
    rcases hwy with rfl | rfl
    · rw [if_neg (by decide)]
      exact fun _ => ⟨ra, rb, rfl, rfl, by simpa using e1, by simpa using e2⟩
    · rw [if_neg (by decide)]
      exact fun h => absurd h (by decide)
end
theorem Zk6 {L j : Nat} (h : 1 ≤ j) : L + j ≠ L := by lia
noncomputable def scrX (ns : List Int) : List Int := [49, 8, 46, 51, 53] ++ ns
section
variable {A : Around} {m : Loc} {hp : Hp} {L : Addr} {ns : List Int} {Q : AF → Loc → Hp → Prop}
theorem Zrk (G : Gnd (KW W0) B0) (hh : A.handled = none) (hu : A.units + 10 < cLine) (hroom : A.depth < recursionLimit) (hlen : ns.length ≤ 63) {sc aT aL : Addr} (hs : Lst B0 hp L sc (ns.map .int)) (g0 : m (S "script") = some (.ref sc)) {r0 : Addr} (W : LA (scrX ns) 0 L aT aL [r0] [] hp)
    (t1 : m (S "texts") = some (.ref aT)) (t2 : m (S "lost") = some (.ref aL)) (t3 : m (S "made") = some (.int 6)) (cs : ∀ j : Nat, 1 ≤ j → j ≤ 5 → ∃ v, hp (L + j) = some (.cell v))
    (h : ∀ m' hp' rs bc, LA (scrX ns) (scrX ns).length L aT aL rs bc hp' → m' (S "texts") = some (.ref aT) → m' (S "lost") = some (.ref aL) → (∀ j : Nat, 1 ≤ j → j ≤ 5 → ∃ v, hp' (L + j) = some (.cell v)) → Q .next m' hp') :
    EX (model PW W0) B0 E0 A (lEnv L) (lS 1) m hp Q := by
  have hxl : (scrX ns).length ≤ 68 := by unfold scrX; rw [List.length_append]; simp; lia
  refine Zem hh (Zah (Zbq (Zab (Zaj (Zab (Zaj (Zab (Zaj (Zab (Zaj (Zab (Zaj (Zae ⟨sz rfl, fun f hf hfL => ?_⟩)))))))))))))
  have lf : Hp.Le hp (hp.set f (.list [.int 49, .int 8, .int 46, .int 51, .int 53])) := (Hp.Le.refl _).set hf _
  have hs1 : Lst B0 (hp.set f (.list [.int 49, .int 8, .int 46, .int 51, .int 53])) L sc (ns.map .int) := hs.le lf
  refine Zaa g0 (Zo7 (.own (Hp.ss ..) hfL) hs1 (by rw [List.length_map]; simp; lia) fun c hc hcL => ?_)
  have ec : [AV.int 49, .int 8, .int 46, .int 51, .int 53] ++ ns.map .int = iL (scrX ns) := by unfold scrX iL; rw [List.map_append]; rfl
  rw [ec]
  have lc := lf.set (lf.none hc) (.list (iL (scrX ns)))
  have hcc : ((hp.set f (.list [.int 49, .int 8, .int 46, .int 51, .int 53])).set c (.list (iL (scrX ns)))) c = some (.list (iL (scrX ns))) := Hp.ss ..
  have ncT : c ≠ aT := fun e => by have := lf.none hc; rw [e, W.T] at this; cases this
  have ncL : c ≠ aL := fun e => by have := lf.none hc; rw [e, W.D] at this; cases this
  have W1 := W.move fun z ys e _ => lc z _ e
  have cs1 : ∀ j : Nat, 1 ≤ j → j ≤ 5 → ∃ v, ((hp.set f (.list [.int 49, .int 8, .int 46, .int 51, .int 53])).set c (.list (iL (scrX ns)))) (L + j) = some (.cell v) := fun j h1 h2 => by obtain ⟨v, e⟩ := cs j h1 h2; exact ⟨v, lc _ _ e⟩
  generalize (hp.set f (.list [.int 49, .int 8, .int 46, .int 51, .int 53])).set c (.list (iL (scrX ns))) = hp1 at hcc W1 cs1 ⊢
  clear lf lc hs1 hs W cs hc hf
  refine ⟨c, _, rfl, .own hcc hcL, fun it hit hitL => ?_⟩
  let Iq : Nat → Loc → Hp → Prop := fun i m₂ hp₂ => ∃ hp₀ ob rs bc, hp₂ = hp₀.set it (.obj ob) ∧ hp₀ it = none ∧ LA (scrX ns) i L aT aL rs bc hp₀ ∧ hp₀ c = some (.list (iL (scrX ns))) ∧ (∀ j : Nat, 1 ≤ j → j ≤ 5 → ∃ v, hp₀ (L + j) = some (.cell v)) ∧ m₂ (S "texts") = some (.ref aT) ∧ m₂ (S "lost") = some (.ref aL) ∧ m₂ (S "made") = some (.int (verT (scrX ns) i).2)
  refine ⟨Iq,
    fun ob => ⟨_, ob, _, _, rfl, hit, W1, hcc, cs1, t1, t2, t3⟩, fun i m₂ hp₂ ob I => ?_, fun i m₂ hp₂ I => ?_, fun i xv m₂ hp₂ ob hx I hob => ?_, fun m₂ hp₂ I => ?_⟩
  · refine hide fun Gq kq => ?_
    obtain ⟨hp₀, ob0, rs, bc, rfl, r⟩ := I
    refine kq ?_; clear kq Gq
    exact ⟨hp₀, ob, rs, bc, Hp.set_set .., r⟩
  · refine hide fun Gq kq => ?_
    obtain ⟨hp₀, ob0, rs, bc, rfl, e0, _, e1, _⟩ := I
    refine kq ?_; clear kq Gq
    exact .own (Hp.snt (Hp.ne_of e1 e0) e1) hcL
  · refine hide fun Gq kq => ?_
    obtain ⟨hp₀, ob0, rs, bc, rfl, e0, W2, e1, cs2, s1, s2, s3⟩ := I
    rw [Hp.ss] at hob; cases hob
    have l0 : Hp.Le hp₀ (hp₀.set it (.obj ob)) := (Hp.Le.refl _).set e0 _
    have hi : i < (scrX ns).length := by have := (List.getElem?_eq_some_iff.mp hx).1; rwa [List.length_map] at this
    have ex : xv = .int ((scrX ns).getD i 0) := by
      rw [List.getElem?_map, List.getElem?_eq_getElem hi] at hx
      rw [List.getD_eq_getElem?_getD, List.getElem?_eq_getElem hi]
      exact (Option.some.inj hx).symm
    subst ex
    refine kq ?_; clear kq Gq
    refine Zak ?_
    have nT : it ≠ aT := (Hp.ne_of W2.T e0).symm
    have nD : it ≠ aL := (Hp.ne_of W2.D e0).symm
    refine Ziu (xs := scrX ns) (k := i) G hh hu hroom (by lia) (W2.move fun z ys e _ => l0 z _ e) (by first | assumption | rfl) (by first | assumption | rfl) (by first | assumption | rfl) (by first | assumption | rfl) fun m' hp' rs' bc' W3 u1 u2 u3 kp => ?_
    have hit' := kp it _ nT nD hitL (Hp.ss ..)
    refine ⟨⟨hp'.del it, ob, rs', bc', ?_, by simp [Hp.del], W3.move fun z ys e _ => ?_, ?_, fun j h1 h2 => ?_, u1, u2, u3⟩, hit'⟩
    · funext z
      by_cases hz : z = it
      · rw [hz, Hp.ss, hit']
      · rw [Hp.sn _ _ hz, Hp.del_ne _ hz]
    · rw [Hp.del_ne _ (fun h => by rw [h, hit'] at e; cases e)]; exact e
    · rw [Hp.del_ne _ (Hp.ne_of e1 e0)]; exact kp c _ ncT ncL hcL (l0 _ _ e1)
    · refine hide fun Gq kq => ?_
      obtain ⟨v, e⟩ := cs2 j h1 h2
      refine kq ?_; clear kq Gq
      refine ⟨v, ?_⟩
      rw [Hp.del_ne _ (Hp.ne_of e e0)]
      refine kp _ _ (fun h => ?_) (fun h => ?_) (Zk6 h1) (l0 _ _ e)
      · rw [h, W2.T] at e; cases e
      · rw [h, W2.D] at e; cases e
  · refine hide fun Gq kq => ?_
    obtain ⟨hp₀, ob0, rs, bc, rfl, e0, W2, e1, cs2, s1, s2, s3⟩ := I
    refine kq ?_; clear kq Gq
    have e : (hp₀.set it (.obj ob0)).del it = hp₀ := by
      funext z
      by_cases hz : z = it
      · rw [hz, e0]; simp [Hp.del]
      · rw [Hp.del_ne _ hz, Hp.sn _ _ hz]
    rw [e]
    rw [List.length_map] at W2
    exact h _ _ _ _ W2 s1 s2 cs2
theorem Zmt {sc : Addr} {m0 : Loc} (G : Gnd (KW W0) B0) (hh : A.handled = none) (hu : A.units + 80 < cLine) (hroom : A.depth + 7 < recursionLimit) (hlen : ns.length ≤ 63) (hs : Lst B0 hp L sc (ns.map .int)) (g0 : m0 (S "script") = some (.ref sc))
    (cs : ∀ j : Nat, 1 ≤ j → j ≤ 5 → ∃ v, hp (L + j) = some (.cell v)) : EXs (model PW W0) B0 (fun _ _ => False) A (lEnv L) (Zbm (topS PW 9)) m0 hp fun f m' hp' => f = .ret (.bool true) := by
  change EXs (model PW W0) B0 (fun _ _ => False) A (lEnv L) [lS 0, lS 1, lS 2, lS 3, lS 4] m0 hp _
  have hxl : (scrX ns).length ≤ 68 := by unfold scrX; rw [List.length_append]; simp; lia
  have hxl0 : 0 < (scrX ns).length := by unfold scrX; rw [List.length_append]; simp; lia
  refine Zac ?_
  refine Zar hh (names := [S "texts", S "lost", S "made"]) ?_
  refine Zap ?_
  refine Zab ?_
  refine Zbq ?_
  refine Zab ?_
  refine Zbq ?_
  refine Zab (Zaj ?_)
  refine Zab (Zaj ?_)
  refine Zab (Zaj ?_)
  refine Zab (Zaj ?_)
  refine Zab (Zaj ?_)
  refine Zab (Zaj ?_)
  refine Zae ⟨sz rfl, fun r0 hr hrL => ?_⟩
  have l1 : Hp.Le hp (hp.set r0 (.list (iL [0, 1, 2, 3, 4, 5]))) := (Hp.Le.refl _).set hr _
  refine Zae ⟨sz rfl, fun aT hT hTL => ?_⟩
  have l2 := l1.set (l1.none hT) (.list [.ref r0])
  refine Zab (Zbq (Zae ⟨sz rfl, fun aL hL hLL => ?_⟩))
  have l3 := l2.set (l2.none hL) (.list [])
  have nTr : r0 ≠ aT := Hp.ne_of (Hp.ss ..) hT
  have nLr : r0 ≠ aL := Hp.ne_of (Hp.snt nTr (Hp.ss ..)) hL
  have nTL : aT ≠ aL := Hp.ne_of (Hp.ss ..) hL
  refine Zab (Zaj (Zae ⟨sz rfl, _, rfl, rfl, Zal (Zal (Zal (Zaq ?_)))⟩))
  have W : LA (scrX ns) 0 L aT aL [r0] [] (((hp.set r0 (.list (iL [0, 1, 2, 3, 4, 5]))).set aT (.list [.ref r0])).set aL (.list [])) := by
    refine ⟨by rw [Hp.sn _ _ nTL, Hp.ss]; rfl, Hp.ss .., hTL, hLL, nTL, rfl, rfl, by simp, fun i a e => ?_, fun i p e => by simp at e⟩
    have hi : i = 0 := by
      have := (List.getElem?_eq_some_iff.mp e).1
      simp at this; exact this
    subst hi
    simp at e; subst e
    exact ⟨Hp.snt nLr (Hp.snt nTr (Hp.ss ..)), hrL, nTr, nLr⟩
  have hs3 : Lst B0 (((hp.set r0 (.list (iL [0, 1, 2, 3, 4, 5]))).set aT (.list [.ref r0])).set aL (.list [])) L sc (ns.map .int) := hs.le l3
  have cs3 : ∀ j : Nat, 1 ≤ j → j ≤ 5 → ∃ v, (((hp.set r0 (.list (iL [0, 1, 2, 3, 4, 5]))).set aT (.list [.ref r0])).set aL (.list [])) (L + j) = some (.cell v) := fun j h1 h2 => by obtain ⟨v, e⟩ := cs j h1 h2; exact ⟨v, l3 _ _ e⟩
  change EXs _ _ _ _ _ _ _ (((hp.set r0 (.list (iL [0, 1, 2, 3, 4, 5]))).set aT (.list [.ref r0])).set aL (.list [])) _
  generalize ((hp.set r0 (.list (iL [0, 1, 2, 3, 4, 5]))).set aT (.list [.ref r0])).set aL (.list []) = hp1 at W hs3 cs3 ⊢
  clear l1 l2 l3 hs cs hr hT hL
  refine Zac (Zrk (ns := ns) G hh (by (exact ul (by assumption) (by decide))) (by (exact ul0 (by assumption))) hlen hs3 (by first | assumption | rfl) W (by first | assumption | rfl) (by first | assumption | rfl) (by first | assumption | rfl) cs3 fun m1 hp2 rs bc W2 t1 t2 cs2 => ?_)
  refine Zac ?_
  refine Zao (Zls G (by kernel_rfl) (Zeq G (g_SM W0) (fun _ => VR_ref) ⟨rfl, ?_⟩))
  refine Zq9 G hh (by show A.depth + 5 < _; (exact ul (by assumption) (by decide))) fun hp3 x dx hx hdx M kp _ => ?_
  have W3 := W2.move fun z ys e hz => kp z _ hz e
  have cs4 : ∀ j : Nat, 1 ≤ j → j ≤ 5 → ∃ v, hp3 (L + j) = some (.cell v) := fun j h1 h2 => by obtain ⟨v, e⟩ := cs2 j h1 h2; exact ⟨v, kp _ _ (Zk6 h1) e⟩
  refine Zac ?_
  refine Zo8 hh (Zap (Zab (Zaj (Zab (Zaj (Zae ⟨sz rfl, _, rfl, fun it hit hitL => ?_⟩))))))
  have hxit : x ≠ it := by obtain ⟨ma, d', j', I', _⟩ := M.ex; exact Hp.ne_of I'.ob hit
  let Iq : Nat → Loc → Hp → Prop := fun i m₂ hp₂ => ∃ hp₀ ob, hp₂ = hp₀.set it (.obj ob) ∧ hp₀ it = none ∧ WS (scrX ns) (scrX ns).length L aT aL x dx rs bc i m₂ hp₀
  refine ⟨Iq,
    fun ob => ⟨_, ob, rfl, hit, ⟨by first | assumption | rfl, by first | assumption | rfl, by first | assumption | rfl, W3, cs4, ⟨_, _, _, _, _, M, ⟨rfl, rfl⟩⟩⟩⟩, fun i m₂ hp₂ ob I => ?_, fun i xv m₂ hp₂ ob hxv I hob => ?_, fun m₂ hp₂ I => ?_⟩
  · obtain ⟨hp₀, ob0, rfl, r⟩ := I
    exact ⟨hp₀, ob, Hp.set_set .., r⟩
  · obtain ⟨hp₀, ob0, rfl, e0, W4⟩ := I
    rw [Hp.ss] at hob; cases hob
    have l0 : Hp.Le hp₀ (hp₀.set it (.obj ob)) := (Hp.Le.refl _).set e0 _
    have hi : i = 0 ∨ i = 1 := by have := (List.getElem?_eq_some_iff.mp hxv).1; simp at this; lia
    have ex : xv = .int i := by rcases hi with rfl | rfl <;> (simp at hxv; exact hxv.symm)
    subst ex
    refine Zak ?_
    have q1 := W4.t
    have q2 := W4.l
    have q3 := W4.mm
    refine Zl2 G hh hu hroom hi hxl hxl0 (W4.move (by first | assumption | rfl) (by first | assumption | rfl) (by first | assumption | rfl) fun z o e _ => l0 z o e) (by first | assumption | rfl) (Hp.ss ..) hitL fun m' hp' W5 hit' => ?_
    refine ⟨⟨hp'.del it, ob, ?_, by simp [Hp.del], W5.move W5.t W5.l W5.mm fun z o e ho => ?_⟩, hit'⟩
    · funext z
      by_cases hz : z = it
      · rw [hz, Hp.ss, hit']
      · rw [Hp.sn _ _ hz, Hp.del_ne _ hz]
    · rw [Hp.del_ne _ (fun h => by rw [h, hit'] at e; cases e; exact hxit ((ho _ rfl).symm.trans h))]; exact e
  · refine Zac ?_
    exact Za6 (Znl rfl)
end
set_option maxHeartbeats 8000000
theorem holds : PySem.Challenge.rw_dm0058_12.Holds := by
  refine Zru fun mean mg mb l vs ns T X hg hl hI hlen => ?_
  have G : Gnd (KW W0) B0 := ⟨X, ⟨mg, mb, T.g, T.b, T.builtins⟩, T.nolimit⟩
  refine Zjm (us := [(S "script", .ref l)]) (bs := [(S "script", .ref l)]) (body := Zbm (topS PW 9)) G hg (kLaw W0) (by kernel_rfl) rfl (by decide) rfl rfl rfl (VRs.one VR_ref) (fun L x hx => ?_) (fun L => ?_) (fun L n c hm => ?_)
  · simp only [List.mem_cons, List.not_mem_nil, or_false] at hx
    subst hx; exact .inl rfl
  · have hcl : cellsFrom (L + 1) fdLaw.scope.names [] = [(S "who", L + 5), (S "drop", L + 4), (S "old", L + 3), (S "v", L + 2), (S "notes", L + 1)] := rfl
    rw [hcl]
    generalize hhp1 : Za7 (fun _ => none) _ _ = hp1
    have cs : ∀ j : Nat, 1 ≤ j → j ≤ 5 → ∃ v, hp1 (L + j) = some (.cell v) := fun j h1 h2 => by
      have : j = 1 ∨ j = 2 ∨ j = 3 ∨ j = 4 ∨ j = 5 := by lia
      refine ⟨none, ?_⟩
      rw [← hhp1]
      rcases this with rfl | rfl | rfl | rfl | rfl <;> (simp [Za7, List.find?]; rfl)
    have g0 : bindLA (callEnvC fdLaw L 261).kindOf [(S "script", AV.ref l)] (fun _ => none) (S "script") = some (.ref l) := rfl
    have h2 : Lst B0 hp1 L l (ns.map .int) := .inr ⟨vs.toArray, hl, Zhd hI⟩
    have key := @Zmt (callerA.deeper (callEnvC fdLaw L 261)) hp1 L ns l _ G rfl (show 4 + 3 + 80 < 9900 from by decide) (show 301 + 1 + 7 < 1000 from by decide) hlen h2 g0 cs
    exact key
  · rw [show cellsFrom (L + 1) fdLaw.scope.names [] = [(S "who", L + 5), (S "drop", L + 4), (S "old", L + 3), (S "v", L + 2), (S "notes", L + 1)] from rfl] at hm ⊢
    simp only [List.mem_cons, Prod.mk.injEq, List.not_mem_nil, or_false] at hm
    rcases hm with ⟨rfl, rfl⟩ | ⟨rfl, rfl⟩ | ⟨rfl, rfl⟩ | ⟨rfl, rfl⟩ | ⟨rfl, rfl⟩ <;> rfl
end Mine
theorem PySem.Challenge.cw_dm0058_12_holds : PySem.Challenge.rw_dm0058_12.Holds :=
  Mine.holds

