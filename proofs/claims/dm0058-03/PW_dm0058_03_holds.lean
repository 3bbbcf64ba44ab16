import PyProof.Rows.All
import Wide.All
import OpenK.AllK
import Wide.FinOn
import PySem.Challenge.RW_dm0058_03
set_option Elab.async false
set_option linter.all false
open PySem PySem.W PyProof.Rows
set_option maxRecDepth 100000
namespace Mine
noncomputable def anyA {α : Type} (as : Array α) (p : α → Bool) (start : Nat := 0) (stop : Nat := as.size) : Bool :=
  @Bool.rec (fun _ => Bool) (Array.any as p start stop) (PySem.W.R.anyR as.toList p) (Nat.beq start 0 && Nat.beq stop as.size)
theorem anyA_eq : @Array.any.{0} = @anyA := by
  funext α as p start stop
  unfold anyA
  cases h : (Nat.beq start 0 && Nat.beq stop as.size) with
  | false => rfl
  | true =>
    have h' := Bool.and_eq_true_iff.mp h
    have h1 := Nat.eq_of_beq_eq_true h'.1
    have h2 := Nat.eq_of_beq_eq_true h'.2
    subst h1; subst h2
    show as.any p = PySem.W.R.anyR as.toList p
    rw [← PySem.W.R.anyR_eq, Array.any_toList]
abbrev AnyT := {α : Type} → Array α → (α → Bool) → (start : Nat) → (stop : Nat) → Bool
inductive TEq : Builtin → Builtin → Type
  | refl (f : Builtin) : TEq f f
theorem TEq.toEq {a b : Builtin} (x : TEq a b) : a = b := by cases x; rfl
noncomputable def newPk : (G : AnyT → Builtin) × TEq PySem.W.Fast.tw4202317264376624991 (G @Array.any) := ⟨_, by
  delta PySem.W.Fast.tw4202317264376624991
  generalize (@Array.any : AnyT) = X
  exact TEq.refl _⟩
theorem newPk_eq : PySem.W.Fast.tw4202317264376624991 = newPk.1 @anyA := newPk.2.toEq.trans (congrArg newPk.1 anyA_eq)
noncomputable def tblA (id : String) : Option Builtin :=
  @Bool.rec (fun _ => Option Builtin) (PySem.W.Fast.tw14364793385576792824 id) (some (newPk.1 @anyA)) (Nat.beq (PySem.W.Fast.tw13482112738370960269 id) (PySem.W.Fast.tw13482112738370960269 "type.__new__"))
theorem tblA_eq : treeTable = tblA := by
  funext id
  unfold tblA
  rw [← PySem.W.Fast.te14364793385576792824, ← PySem.W.Fast.te13482112738370960269]
  cases h : Nat.beq (PySem.code id) (PySem.code "type.__new__") with
  | false => rfl
  | true =>
    have h1 := PySem.code_inj _ _ (Nat.eq_of_beq_eq_true h)
    subst h1
    show _ = some (newPk.1 @anyA)
    rw [← newPk_eq, ← PySem.W.Fast.te4202317264376624991]
    kernel_rfl
noncomputable def topRunT (tb : String → Option Builtin) (p : Program) (w : World) (n₀ : Nat) (ann : Option Value) : Nat → SharedT → Thread → Option SharedT
  | 0, _, _ => none
  | n + 1, s, t => match through t with
    | true => some s
    | false => match PySem.W.Fast.tw6613529449190102663 n₀ ann t with
      | false => none
      | true => match PySem.W.Fast.tw10156331382660048174 (PySem.W.Fast.tw11892475500146522536 tb) p w s t with
        | some (s', t') => topRunT tb p w n₀ ann n s' t'
        | none => none
noncomputable def bootT (P : Params) : BT :=
  .node (boot_o_0 P) (.node (boot_o_1 P) (.node (boot_o_3 P) (.node (boot_o_7 P) .nil .nil) .nil) (.node (boot_o_5 P) (.node (boot_o_9 P) .nil .nil) .nil))
    (.node (boot_o_2 P) (.node (boot_o_4 P) (.node (boot_o_8 P) .nil .nil) .nil) (.node (boot_o_6 P) (.node (boot_o_10 P) .nil .nil) .nil))
theorem boot_abs (P : Params) : absHeap (bootT P) 11 (boot_heap P).life = boot_heap P := rfl
theorem look : (PySem.Challenge.pw_dm0058_03.modules.isEmpty) = true := by k_qdec
noncomputable def S0 (w : World) (os : OsState) : SharedT := ⟨bootT w.params, 11, (boot_heap w.params).life, #[], boot_drawn, boot_toks, os⟩

noncomputable abbrev pT : Program := PySem.W.Fast.tw15885383337278007707
theorem pT_eq : PySem.Challenge.pw_dm0058_03 = pT := PySem.W.Fast.te15885383337278007707
noncomputable def theRun (w : World) (os : OsState) : Option SharedT := topRunT tblA pT w 11 (some (.ref 6)) 2300 (S0 w os) (topStub pT)
theorem topRunT_of {p : Program} {w : World} {n₀ : Nat} {ann : Option Value} : ∀ {n : Nat} {s s' : SharedT} {t : Thread}, topRunT tblA p w n₀ ann n s t = some s' → topRun treeTable p w n₀ ann n s.abs t = some s'.abs
  | 0, _, _, _, h => by cases h
  | n + 1, s, s', t, h => by
    unfold topRunT at h
    unfold topRun
    cases he : through t with
    | true => rw [he] at h; cases h; rfl
    | false =>
      rw [he] at h
      rw [← PySem.W.Fast.te6613529449190102663] at h
      cases hk : stepOk n₀ ann t with
      | false => rw [hk] at h; cases h
      | true =>
        rw [hk] at h
        rw [← PySem.W.Fast.te10156331382660048174, ← PySem.W.Fast.te11892475500146522536, ← tblA_eq] at h
        cases hs : stepT (denote treeTable) p w s t with
        | none => rw [hs] at h; cases h
        | some r => obtain ⟨s₂, t₂⟩ := r; rw [hs] at h; dsimp only; rw [stepT_spec hs]; rw [tblA_eq] at h; exact topRunT_of h
def qV : Program := view PySem.Challenge.pw_dm0058_03 [0, 2, 3, 4, 5, 7, 8, 9]
def looseV : List PySem.Str := [PySem.Str.ofString "_tuplegetter", PySem.Str.ofString "Match", PySem.Str.ofString "SequenceMatcher"]


abbrev S (x : String) : PySem.Str := PySem.Str.ofString x
def topS (p : Program) (i : Nat) : Stmt := p.main.body.getD i (.Pass default)
def inS (c : Stmt) (i : Nat) : Stmt := match c with
  | .ClassDef _ _ _ b _ _ _ _ _ _ _ => b.getD i (.Pass default)
  | _ => .Pass default
def dParams : Stmt → Arguments
  | .FunctionDef _ a _ _ _ _ _ _ _ _ => a
  | _ => default
def dBody : Stmt → List Stmt
  | .FunctionDef _ _ b _ _ _ _ _ _ _ => b
  | .ClassDef _ _ _ b _ _ _ _ _ _ _ => b
  | _ => []
def dScope : Stmt → Scope
  | .FunctionDef _ _ _ _ _ _ sc _ _ _ => sc
  | _ => default
def dName : Stmt → PySem.Str
  | .FunctionDef n _ _ _ _ _ _ _ _ _ => n
  | _ => S ""
def docS (d : Stmt) : PySem.Str := match PySem.docOf (dBody d) with | some s => s | none => S ""
def docV (t : Nat) (b : List Stmt) : Value := match PySem.docOf b with | some s => .str s t | none => .none
def fnD (d : Stmt) (qual : PySem.Str) (dV kV : Value) (dt : Nat) (pm : Value) (an : Option Addr) (cd ct : Value) (cl : List (PySem.Str × Addr)) : FuncData :=
  { name := dName d, qualname := qual, params := dParams d, body := .stmts (dBody d), scope := dScope d, globals := 3, closure := cl, defaults := dV, kwdefaults := kV, doc := docV dt (dBody d), pyModule := pm, annotations := an, code := cd, closureTuple := ct, builtins := 0 }
def KP (p : Program) (P : Params) : Frag := [
  (2, ⟨.none, none, (.dict #[] 0), #[]⟩),
  (3, ⟨(.type "dict"), none, (.dict #[⟨(PyData.keyHash P (S "__name__")), (.str (S "__name__") 165), (.str (S "law_dm0058_03") 592)⟩, ⟨(PyData.keyHash P (S "__doc__")), (.str (S "__doc__") 166), .none⟩, ⟨(PyData.keyHash P (S "__package__")), (.str (S "__package__") 167), .none⟩, ⟨(PyData.keyHash P (S "__loader__")), (.str (S "__loader__") 168), (.builtin "__main__.__loader__#opaque")⟩, ⟨(PyData.keyHash P (S "__spec__")), (.str (S "__spec__") 169), .none⟩, ⟨(PyData.keyHash P (S "__annotations__")), (.str (S "__annotations__") 170), (.ref 6)⟩, ⟨(PyData.keyHash P (S "__builtins__")), (.str (S "__builtins__") 171), (.ref 4)⟩, ⟨(PyData.keyHash P (S "__file__")), (.str (S "__file__") 173), (.str (S "/claim/cut.py") 172)⟩, ⟨(PyData.keyHash P (S "__cached__")), (.str (S "__cached__") 174), .none⟩, ⟨(PyData.keyHash P (S "_wall")), (.str (S "_wall") 193), (.ref 21)⟩, ⟨(PyData.keyHash P (S "_tuplegetter")), (.str (S "_tuplegetter") 252), (.ref 60)⟩, ⟨(PyData.keyHash P (S "Match")), (.str (S "Match") 380), (.ref 135)⟩, ⟨(PyData.keyHash P (S "_calculate_ratio")), (.str (S "_calculate_ratio") 388), (.ref 145)⟩, ⟨(PyData.keyHash P (S "SequenceMatcher")), (.str (S "SequenceMatcher") 591), (.ref 242)⟩, ⟨(PyData.keyHash P (S "_law_blocks")), (.str (S "_law_blocks") 607), (.ref 253)⟩, ⟨(PyData.keyHash P (S "_law_groups")), (.str (S "_law_groups") 613), (.ref 258)⟩, ⟨(PyData.keyHash P (S "law")), (.str (S "law") 623), (.ref 265)⟩] 17), #[]⟩),
  (20, ⟨(.type "code"), none, (.fields #[(.str (S "_wall") 187), (.str (S "_wall") 188), (.str (S "/claim/cut.py") 189), (.int 1 0), (.int 1 0), (.int 0 0), (.int 0 0), (.int 3 0), (.ref 15), (.bool true), (.int 181 0), (.ref 16), .none, (.ref 17), (.ref 18), (.ref 19), (.int 191 0), (.int 1 0), (.str (S "/claim/cut.py") 192)]), #[]⟩),
  (21, ⟨(.type "function"), none, (.func (fnD (topS p 0) (S "_wall") .none .none 0 (.str (S "__main__") 164) none (.ref 20) .none [])), #[]⟩),
  (68, ⟨(.type "cell"), none, (.cell (some (.ref 135))), #[]⟩),
  (75, ⟨(.type "dict"), none, (.dict #[] 0), #[]⟩),
  (81, ⟨(.type "code"), none, (.fields #[(.str (S "__new__") 274), (.str (S "Match.__new__") 275), (.str (S "/claim/cut.py") 276), (.int 29 0), (.int 4 0), (.int 0 0), (.int 0 0), (.int 3 0), (.ref 76), (.bool true), (.int 181 0), (.ref 77), .none, (.ref 78), (.ref 79), (.ref 80), (.int 281 0), (.int 29 0), (.str (S "/claim/cut.py") 282)]), #[]⟩),
  (82, ⟨(.type "function"), none, (.func (fnD (inS (topS p 3) 4) (S "Match.__new__") .none .none 283 (.str (S "cpy313.difflib") 194) none (.ref 81) .none [])), #[]⟩),
  (88, ⟨(.type "code"), none, (.fields #[(.str (S "_make") 285), (.str (S "Match._make") 286), (.str (S "/claim/cut.py") 287), (.int 33 0), (.int 2 0), (.int 0 0), (.int 0 0), (.int 3 0), (.ref 83), (.bool true), (.int 181 0), (.ref 84), .none, (.ref 85), (.ref 86), (.ref 87), (.int 291 0), (.int 33 0), (.str (S "/claim/cut.py") 292)]), #[]⟩),
  (89, ⟨(.type "function"), none, (.func (fnD (inS (topS p 3) 5) (S "Match._make") .none .none 293 (.str (S "cpy313.difflib") 194) (some 92) (.ref 88) .none [])), #[]⟩),
  (90, ⟨(.type "dict"), none, (.dict #[⟨(PyData.keyHash P (S "__module__")), (.str (S "__module__") 295), (.str (S "cpy313.difflib") 194)⟩, ⟨(PyData.keyHash P (S "__name__")), (.str (S "__name__") 298), (.str (S "_make") 297)⟩, ⟨(PyData.keyHash P (S "__qualname__")), (.str (S "__qualname__") 301), (.str (S "Match._make") 300)⟩, ⟨(PyData.keyHash P (S "__doc__")), (.str (S "__doc__") 303), (.str (docS (inS (topS p 3) 5)) 293)⟩, ⟨(PyData.keyHash P (S "__annotations__")), (.str (S "__annotations__") 305), (.ref 92)⟩] 5), #[]⟩),
  (91, ⟨(.type "classmethod"), (some 90), (.fields #[(.ref 89), (.bool false)]), #[]⟩),
  (92, ⟨(.type "dict"), none, (.dict #[] 0), #[]⟩),
  (99, ⟨(.type "code"), none, (.fields #[(.str (S "_replace") 307), (.str (S "Match._replace") 308), (.str (S "/claim/cut.py") 309), (.int 41 0), (.int 1 0), (.int 1 0), (.int 0 0), (.int 11 0), (.ref 94), (.bool true), (.int 181 0), (.ref 95), .none, (.ref 96), (.ref 97), (.ref 98), (.int 314 0), (.int 41 0), (.str (S "/claim/cut.py") 315)]), #[]⟩),
  (100, ⟨(.type "function"), none, (.func (fnD (inS (topS p 3) 6) (S "Match._replace") .none .none 316 (.str (S "cpy313.difflib") 194) none (.ref 99) (.ref 93) [((S "__class__"), 68)])), #[]⟩),
  (106, ⟨(.type "code"), none, (.fields #[(.str (S "__repr__") 319), (.str (S "Match.__repr__") 320), (.str (S "/claim/cut.py") 321), (.int 52 0), (.int 1 0), (.int 0 0), (.int 0 0), (.int 3 0), (.ref 101), (.bool true), (.int 181 0), (.ref 102), .none, (.ref 103), (.ref 104), (.ref 105), (.int 323 0), (.int 52 0), (.str (S "/claim/cut.py") 324)]), #[]⟩),
  (107, ⟨(.type "function"), none, (.func (fnD (inS (topS p 3) 8) (S "Match.__repr__") .none .none 325 (.str (S "cpy313.difflib") 194) none (.ref 106) .none [])), #[]⟩),
  (113, ⟨(.type "code"), none, (.fields #[(.str (S "_asdict") 327), (.str (S "Match._asdict") 328), (.str (S "/claim/cut.py") 329), (.int 56 0), (.int 1 0), (.int 0 0), (.int 0 0), (.int 3 0), (.ref 108), (.bool true), (.int 181 0), (.ref 109), .none, (.ref 110), (.ref 111), (.ref 112), (.int 331 0), (.int 56 0), (.str (S "/claim/cut.py") 332)]), #[]⟩),
  (114, ⟨(.type "function"), none, (.func (fnD (inS (topS p 3) 9) (S "Match._asdict") .none .none 0 (.str (S "cpy313.difflib") 194) none (.ref 113) .none [])), #[]⟩),
  (120, ⟨(.type "code"), none, (.fields #[(.str (S "__getnewargs__") 334), (.str (S "Match.__getnewargs__") 335), (.str (S "/claim/cut.py") 336), (.int 59 0), (.int 1 0), (.int 0 0), (.int 0 0), (.int 3 0), (.ref 115), (.bool true), (.int 181 0), (.ref 116), .none, (.ref 117), (.ref 118), (.ref 119), (.int 338 0), (.int 59 0), (.str (S "/claim/cut.py") 339)]), #[]⟩),
  (121, ⟨(.type "function"), none, (.func (fnD (inS (topS p 3) 10) (S "Match.__getnewargs__") .none .none 340 (.str (S "cpy313.difflib") 194) none (.ref 120) .none [])), #[]⟩),
  (134, ⟨(.type "dict"), none, (.dict #[⟨(PyData.keyHash P (S "__module__")), (.str (S "__module__") 260), (.str (S "cpy313.difflib") 194)⟩, ⟨(PyData.keyHash P (S "__firstlineno__")), (.str (S "__firstlineno__") 264), (.int 23 263)⟩, ⟨(PyData.keyHash P (S "__doc__")), (.str (S "__doc__") 266), (.str (S "Match(a, b, size)") 265)⟩, ⟨(PyData.keyHash P (S "__slots__")), (.str (S "__slots__") 268), (.ref 73)⟩, ⟨(PyData.keyHash P (S "_fields")), (.str (S "_fields") 272), (.ref 74)⟩, ⟨(PyData.keyHash P (S "_field_defaults")), (.str (S "_field_defaults") 273), (.ref 75)⟩, ⟨(PyData.keyHash P (S "__new__")), (.str (S "__new__") 284), (.ref 136)⟩, ⟨(PyData.keyHash P (S "_make")), (.str (S "_make") 306), (.ref 91)⟩, ⟨(PyData.keyHash P (S "_replace")), (.str (S "_replace") 317), (.ref 100)⟩, ⟨(PyData.keyHash P (S "__replace__")), (.str (S "__replace__") 318), (.ref 100)⟩, ⟨(PyData.keyHash P (S "__repr__")), (.str (S "__repr__") 326), (.ref 107)⟩, ⟨(PyData.keyHash P (S "_asdict")), (.str (S "_asdict") 333), (.ref 114)⟩, ⟨(PyData.keyHash P (S "__getnewargs__")), (.str (S "__getnewargs__") 341), (.ref 121)⟩, ⟨(PyData.keyHash P (S "__match_args__")), (.str (S "__match_args__") 345), (.ref 122)⟩, ⟨(PyData.keyHash P (S "a")), (.str (S "a") 355), (.ref 124)⟩, ⟨(PyData.keyHash P (S "b")), (.str (S "b") 365), (.ref 127)⟩, ⟨(PyData.keyHash P (S "size")), (.str (S "size") 375), (.ref 130)⟩, ⟨(PyData.keyHash P (S "__static_attributes__")), (.str (S "__static_attributes__") 376), (.ref 132)⟩] 2), #[]⟩),
  (135, ⟨(.type "type"), none, (.cls { name := (S "Match"), bases := [(.type "tuple")], mro := [(.ref 135), (.type "tuple"), (.type "object")], ns := 134, qualname := (S "Match"), hasDict := false, slotNames := [], subclasses := [], abstract := false, collection := none, hasDel := false }), #[(some (.ref 65)), none, (some (.str (S "Match") 253)), (some (.str (S "Match") 261)), (some .none), (some (.bool false))]⟩),
  (136, ⟨(.type "staticmethod"), none, (.fields #[(.ref 82)]), #[]⟩),
  (144, ⟨(.type "code"), none, (.fields #[(.str (S "_calculate_ratio") 381), (.str (S "_calculate_ratio") 382), (.str (S "/claim/cut.py") 383), (.int 66 0), (.int 2 0), (.int 0 0), (.int 0 0), (.int 3 0), (.ref 139), (.bool true), (.int 181 0), (.ref 140), .none, (.ref 141), (.ref 142), (.ref 143), (.int 386 0), (.int 66 0), (.str (S "/claim/cut.py") 387)]), #[]⟩),
  (145, ⟨(.type "function"), none, (.func (fnD (topS p 4) (S "_calculate_ratio") .none .none 0 (.str (S "cpy313.difflib") 194) none (.ref 144) .none [])), #[]⟩),
  (153, ⟨(.type "tuple"), none, (.seq #[.none, (.str (S "") 404), (.str (S "") 405), (.bool true)] 0), #[]⟩),
  (159, ⟨(.type "code"), none, (.fields #[(.str (S "__init__") 406), (.str (S "SequenceMatcher.__init__") 407), (.str (S "/claim/cut.py") 408), (.int 145 0), (.int 5 0), (.int 0 0), (.int 0 0), (.int 3 0), (.ref 154), (.bool true), (.int 181 0), (.ref 155), .none, (.ref 156), (.ref 157), (.ref 158), (.int 414 0), (.int 145 0), (.str (S "/claim/cut.py") 415)]), #[]⟩),
  (160, ⟨(.type "function"), none, (.func (fnD (inS (topS p 5) 1) (S "SequenceMatcher.__init__") (.ref 153) .none 416 (.str (S "cpy313.difflib") 194) none (.ref 159) .none [])), #[]⟩),
  (166, ⟨(.type "code"), none, (.fields #[(.str (S "set_seqs") 418), (.str (S "SequenceMatcher.set_seqs") 419), (.str (S "/claim/cut.py") 420), (.int 173 0), (.int 3 0), (.int 0 0), (.int 0 0), (.int 3 0), (.ref 161), (.bool true), (.int 181 0), (.ref 162), .none, (.ref 163), (.ref 164), (.ref 165), (.int 424 0), (.int 173 0), (.str (S "/claim/cut.py") 425)]), #[]⟩),
  (167, ⟨(.type "function"), none, (.func (fnD (inS (topS p 5) 2) (S "SequenceMatcher.set_seqs") .none .none 426 (.str (S "cpy313.difflib") 194) none (.ref 166) .none [])), #[]⟩),
  (173, ⟨(.type "code"), none, (.fields #[(.str (S "set_seq1") 428), (.str (S "SequenceMatcher.set_seq1") 429), (.str (S "/claim/cut.py") 430), (.int 184 0), (.int 2 0), (.int 0 0), (.int 0 0), (.int 3 0), (.ref 168), (.bool true), (.int 181 0), (.ref 169), .none, (.ref 170), (.ref 171), (.ref 172), (.int 433 0), (.int 184 0), (.str (S "/claim/cut.py") 434)]), #[]⟩),
  (174, ⟨(.type "function"), none, (.func (fnD (inS (topS p 5) 3) (S "SequenceMatcher.set_seq1") .none .none 435 (.str (S "cpy313.difflib") 194) none (.ref 173) .none [])), #[]⟩),
  (180, ⟨(.type "code"), none, (.fields #[(.str (S "set_seq2") 437), (.str (S "SequenceMatcher.set_seq2") 438), (.str (S "/claim/cut.py") 439), (.int 209 0), (.int 2 0), (.int 0 0), (.int 0 0), (.int 3 0), (.ref 175), (.bool true), (.int 181 0), (.ref 176), .none, (.ref 177), (.ref 178), (.ref 179), (.int 442 0), (.int 209 0), (.str (S "/claim/cut.py") 443)]), #[]⟩),
  (181, ⟨(.type "function"), none, (.func (fnD (inS (topS p 5) 4) (S "SequenceMatcher.set_seq2") .none .none 444 (.str (S "cpy313.difflib") 194) none (.ref 180) .none [])), #[]⟩),
  (187, ⟨(.type "code"), none, (.fields #[(.str (S "__chain_b") 446), (.str (S "SequenceMatcher.__chain_b") 447), (.str (S "/claim/cut.py") 448), (.int 236 0), (.int 1 0), (.int 0 0), (.int 0 0), (.int 3 0), (.ref 182), (.bool true), (.int 181 0), (.ref 183), .none, (.ref 184), (.ref 185), (.ref 186), (.int 461 0), (.int 236 0), (.str (S "/claim/cut.py") 462)]), #[]⟩),
  (188, ⟨(.type "function"), none, (.func (fnD (inS (topS p 5) 5) (S "SequenceMatcher.__chain_b") .none .none 0 (.str (S "cpy313.difflib") 194) none (.ref 187) .none [])), #[]⟩),
  (189, ⟨(.type "tuple"), none, (.seq #[(.int 0 464), .none, (.int 0 465), .none] 0), #[]⟩),
  (195, ⟨(.type "code"), none, (.fields #[(.str (S "find_longest_match") 466), (.str (S "SequenceMatcher.find_longest_match") 467), (.str (S "/claim/cut.py") 468), (.int 260 0), (.int 5 0), (.int 0 0), (.int 0 0), (.int 3 0), (.ref 190), (.bool true), (.int 181 0), (.ref 191), .none, (.ref 192), (.ref 193), (.ref 194), (.int 488 0), (.int 260 0), (.str (S "/claim/cut.py") 489)]), #[]⟩),
  (196, ⟨(.type "function"), none, (.func (fnD (inS (topS p 5) 6) (S "SequenceMatcher.find_longest_match") (.ref 189) .none 490 (.str (S "cpy313.difflib") 194) none (.ref 195) .none [])), #[]⟩),
  (202, ⟨(.type "code"), none, (.fields #[(.str (S "get_matching_blocks") 492), (.str (S "SequenceMatcher.get_matching_blocks") 493), (.str (S "/claim/cut.py") 494), (.int 335 0), (.int 1 0), (.int 0 0), (.int 0 0), (.int 3 0), (.ref 197), (.bool true), (.int 181 0), (.ref 198), .none, (.ref 199), (.ref 200), (.ref 201), (.int 515 0), (.int 335 0), (.str (S "/claim/cut.py") 516)]), #[]⟩),
  (203, ⟨(.type "function"), none, (.func (fnD (inS (topS p 5) 7) (S "SequenceMatcher.get_matching_blocks") .none .none 517 (.str (S "cpy313.difflib") 194) none (.ref 202) .none [])), #[]⟩),
  (209, ⟨(.type "code"), none, (.fields #[(.str (S "get_opcodes") 519), (.str (S "SequenceMatcher.get_opcodes") 520), (.str (S "/claim/cut.py") 521), (.int 383 0), (.int 1 0), (.int 0 0), (.int 0 0), (.int 3 0), (.ref 204), (.bool true), (.int 181 0), (.ref 205), .none, (.ref 206), (.ref 207), (.ref 208), (.int 530 0), (.int 383 0), (.str (S "/claim/cut.py") 531)]), #[]⟩),
  (210, ⟨(.type "function"), none, (.func (fnD (inS (topS p 5) 8) (S "SequenceMatcher.get_opcodes") .none .none 532 (.str (S "cpy313.difflib") 194) none (.ref 209) .none [])), #[]⟩),
  (211, ⟨(.type "tuple"), none, (.seq #[(.int 3 534)] 0), #[]⟩),
  (217, ⟨(.type "code"), none, (.fields #[(.str (S "get_grouped_opcodes") 535), (.str (S "SequenceMatcher.get_grouped_opcodes") 536), (.str (S "/claim/cut.py") 537), (.int 430 0), (.int 2 0), (.int 0 0), (.int 0 0), (.int 35 0), (.ref 212), (.bool true), (.int 181 0), (.ref 213), .none, (.ref 214), (.ref 215), (.ref 216), (.int 548 0), (.int 430 0), (.str (S "/claim/cut.py") 549)]), #[]⟩),
  (218, ⟨(.type "function"), none, (.func (fnD (inS (topS p 5) 9) (S "SequenceMatcher.get_grouped_opcodes") (.ref 211) .none 550 (.str (S "cpy313.difflib") 194) none (.ref 217) .none [])), #[]⟩),
  (224, ⟨(.type "code"), none, (.fields #[(.str (S "ratio") 552), (.str (S "SequenceMatcher.ratio") 553), (.str (S "/claim/cut.py") 554), (.int 475 0), (.int 1 0), (.int 0 0), (.int 0 0), (.int 3 0), (.ref 219), (.bool true), (.int 181 0), (.ref 220), .none, (.ref 221), (.ref 222), (.ref 223), (.int 557 0), (.int 475 0), (.str (S "/claim/cut.py") 558)]), #[]⟩),
  (225, ⟨(.type "function"), none, (.func (fnD (inS (topS p 5) 10) (S "SequenceMatcher.ratio") .none .none 559 (.str (S "cpy313.difflib") 194) none (.ref 224) .none [])), #[]⟩),
  (231, ⟨(.type "code"), none, (.fields #[(.str (S "quick_ratio") 561), (.str (S "SequenceMatcher.quick_ratio") 562), (.str (S "/claim/cut.py") 563), (.int 499 0), (.int 1 0), (.int 0 0), (.int 0 0), (.int 3 0), (.ref 226), (.bool true), (.int 181 0), (.ref 227), .none, (.ref 228), (.ref 229), (.ref 230), (.int 565 0), (.int 499 0), (.str (S "/claim/cut.py") 566)]), #[]⟩),
  (232, ⟨(.type "function"), none, (.func (fnD (inS (topS p 5) 11) (S "SequenceMatcher.quick_ratio") .none .none 0 (.str (S "cpy313.difflib") 194) none (.ref 231) .none [])), #[]⟩),
  (238, ⟨(.type "code"), none, (.fields #[(.str (S "real_quick_ratio") 568), (.str (S "SequenceMatcher.real_quick_ratio") 569), (.str (S "/claim/cut.py") 570), (.int 502 0), (.int 1 0), (.int 0 0), (.int 0 0), (.int 3 0), (.ref 233), (.bool true), (.int 181 0), (.ref 234), .none, (.ref 235), (.ref 236), (.ref 237), (.int 572 0), (.int 502 0), (.str (S "/claim/cut.py") 573)]), #[]⟩),
  (239, ⟨(.type "function"), none, (.func (fnD (inS (topS p 5) 12) (S "SequenceMatcher.real_quick_ratio") .none .none 0 (.str (S "cpy313.difflib") 194) none (.ref 238) .none [])), #[]⟩),
  (241, ⟨(.type "dict"), none, (.dict #[⟨(PyData.keyHash P (S "__module__")), (.str (S "__module__") 396), (.str (S "cpy313.difflib") 194)⟩, ⟨(PyData.keyHash P (S "__firstlineno__")), (.str (S "__firstlineno__") 400), (.int 70 399)⟩, ⟨(PyData.keyHash P (S "__doc__")), (.str (S "__doc__") 402), (.str (docS (topS p 5)) 401)⟩, ⟨(PyData.keyHash P (S "__init__")), (.str (S "__init__") 417), (.ref 160)⟩, ⟨(PyData.keyHash P (S "set_seqs")), (.str (S "set_seqs") 427), (.ref 167)⟩, ⟨(PyData.keyHash P (S "set_seq1")), (.str (S "set_seq1") 436), (.ref 174)⟩, ⟨(PyData.keyHash P (S "set_seq2")), (.str (S "set_seq2") 445), (.ref 181)⟩, ⟨(PyData.keyHash P (S "_SequenceMatcher__chain_b")), (.str (S "_SequenceMatcher__chain_b") 463), (.ref 188)⟩, ⟨(PyData.keyHash P (S "find_longest_match")), (.str (S "find_longest_match") 491), (.ref 196)⟩, ⟨(PyData.keyHash P (S "get_matching_blocks")), (.str (S "get_matching_blocks") 518), (.ref 203)⟩, ⟨(PyData.keyHash P (S "get_opcodes")), (.str (S "get_opcodes") 533), (.ref 210)⟩, ⟨(PyData.keyHash P (S "get_grouped_opcodes")), (.str (S "get_grouped_opcodes") 551), (.ref 218)⟩, ⟨(PyData.keyHash P (S "ratio")), (.str (S "ratio") 560), (.ref 225)⟩, ⟨(PyData.keyHash P (S "quick_ratio")), (.str (S "quick_ratio") 567), (.ref 232)⟩, ⟨(PyData.keyHash P (S "real_quick_ratio")), (.str (S "real_quick_ratio") 574), (.ref 239)⟩, ⟨(PyData.keyHash P (S "__static_attributes__")), (.str (S "__static_attributes__") 585), (.ref 240)⟩, ⟨(PyData.keyHash P (S "__dict__")), (.str (S "__dict__") 587), (.ref 243)⟩, ⟨(PyData.keyHash P (S "__weakref__")), (.str (S "__weakref__") 589), (.ref 244)⟩] 3), #[]⟩),
  (242, ⟨(.type "type"), none, (.cls { name := (S "SequenceMatcher"), bases := [(.type "object")], mro := [(.ref 242), (.type "object")], ns := 241, qualname := (S "SequenceMatcher"), hasDict := true, slotNames := [], subclasses := [], abstract := false, collection := none, hasDel := false }), #[none, none, (some (.str (S "SequenceMatcher") 389)), (some (.str (S "SequenceMatcher") 397)), (some (.builtin "object.__new__")), (some (.bool true))]⟩),
  (252, ⟨(.type "code"), none, (.fields #[(.str (S "_law_blocks") 594), (.str (S "_law_blocks") 595), (.str (S "/claim/cut.py") 596), (.int 505 0), (.int 1 0), (.int 0 0), (.int 0 0), (.int 3 0), (.ref 247), (.bool true), (.int 181 0), (.ref 248), .none, (.ref 249), (.ref 250), (.ref 251), (.int 605 0), (.int 505 0), (.str (S "/claim/cut.py") 606)]), #[]⟩),
  (253, ⟨(.type "function"), none, (.func (fnD (topS p 7) (S "_law_blocks") .none .none 0 (.str (S "law_dm0058_03") 592) none (.ref 252) .none [])), #[]⟩),
  (257, ⟨(.type "code"), none, (.fields #[(.str (S "_law_groups") 608), (.str (S "_law_groups") 609), (.str (S "/claim/cut.py") 610), (.int 522 0), (.int 2 0), (.int 0 0), (.int 0 0), (.int 3 0), (.ref 254), (.bool true), (.int 181 0), (.ref 255), .none, .none, .none, (.ref 256), (.int 611 0), (.int 522 0), (.str (S "/claim/cut.py") 612)]), #[]⟩),
  (258, ⟨(.type "function"), none, (.func (fnD (topS p 8) (S "_law_groups") .none .none 0 (.str (S "law_dm0058_03") 592) none (.ref 257) .none [])), #[]⟩),
  (264, ⟨(.type "code"), none, (.fields #[(.str (S "law") 614), (.str (S "law") 615), (.str (S "/claim/cut.py") 616), (.int 540 0), (.int 1 0), (.int 0 0), (.int 0 0), (.int 3 0), (.ref 259), (.bool true), (.int 181 0), (.ref 260), .none, (.ref 261), (.ref 262), (.ref 263), (.int 621 0), (.int 540 0), (.str (S "/claim/cut.py") 622)]), #[]⟩),
  (265, ⟨(.type "function"), none, (.func (fnD (topS p 9) (S "law") .none .none 0 (.str (S "law_dm0058_03") 592) none (.ref 264) .none [])), #[]⟩)]
def Kas : List Addr := [2, 3, 20, 21, 68, 75, 81, 82, 88, 89, 90, 91, 92, 99, 100, 106, 107, 113, 114, 120, 121, 134, 135, 136, 144, 145, 153, 159, 160, 166, 167, 173, 174, 180, 181, 187, 188, 189, 195, 196, 202, 203, 209, 210, 211, 217, 218, 224, 225, 231, 232, 238, 239, 241, 242, 252, 253, 257, 258, 264, 265]

theorem Kas_eq (p : Program) (P : Params) : Kas = (KP p P).map (·.1) := rfl
noncomputable def xtV (s : Shared) : Bool := xlAt qV [] s && recOk [] s
noncomputable def obsT (w : World) (s : SharedT) := ((staticsOk (importedModules pT.main.body) (boot_heap w.params) s.abs.heap && namesBound pT s.abs.heap && gensDone s.abs && laidKept (boot_heap w.params) s.abs.heap),
  PySem.W.Fast.tw4187177175401517315 qV looseV (importedModules pT.main.body) xtV true s.abs, Kas.map s.abs.heap.get?, s.os)
set_option maxRecDepth 100000 in
theorem big : ∀ (w : World), (fun os => (theRun w os).map (obsT w)) = (fun os => some (true, openGood qV looseV, (KP pT w.params).map (fun p => some p.2), os)) := fun w => by kernel_rfl
end Mine

open PySem PySem.W PyProof.Rows
set_option maxRecDepth 100000
namespace Mine
def hkV : Hook := kHook (KP PySem.Challenge.pw_dm0058_03) Kas (Kas_eq _)
theorem bootV : ∀ w : World, (fencedOpening treeTable PySem.Challenge.pw_dm0058_03 w 4600).map (fun s => (s.heap, s.gens, s.drawn, s.toks)) = some (boot_heap w.params, Array.mk [], boot_drawn, boot_toks) :=
  boot_open rfl (by decide) (fun _ => rfl)
theorem sizeV (w : World) : ((boot_heap w.params).isNs mainGlobals && (Array.mk [] : Array GenState).size == 0, (boot_heap w.params).objs.size, (boot_heap w.params).nsMap mainGlobals "__annotations__") = (true, 11, some (.ref 6)) := by kernel_rfl
theorem s0_abs (w : World) (os : OsState) : (S0 w os).abs = ⟨boot_heap w.params, #[], boot_drawn, boot_toks, os⟩ := by
  unfold S0 SharedT.abs
  rw [boot_abs]
theorem runV {w : World} {os : OsState} {s' : SharedT} (hs : theRun w os = some s') : topRun treeTable PySem.Challenge.pw_dm0058_03 w 11 (some (.ref 6)) 4600 ⟨boot_heap w.params, #[], boot_drawn, boot_toks, os⟩ (topStub PySem.Challenge.pw_dm0058_03) = some s'.abs := by
  unfold theRun at hs
  have r := topRunT_of hs
  rw [s0_abs, ← pT_eq] at r
  exact topRun_mono 2300 _ _ _ _ r
theorem bigV (w : World) (os : OsState) : (theRun w os).map (obsT w) = some (true, openGood qV looseV, (KP pT w.params).map (fun p => some p.2), os) := congrFun (big w) os
theorem obsV {w : World} {os : OsState} {s' : SharedT} (hs : theRun w os = some s') : obsT w s' = (true, openGood qV looseV, (KP pT w.params).map (fun p => some p.2), os) := by
  have b := bigV w os
  rw [hs] at b
  exact Option.some.inj b
theorem look1 {w : World} {os : OsState} {s' : SharedT} (hs : theRun w os = some s') :
    (staticsOk (importedModules PySem.Challenge.pw_dm0058_03.main.body) (boot_heap w.params) s'.abs.heap && namesBound PySem.Challenge.pw_dm0058_03 s'.abs.heap && gensDone s'.abs && laidKept (boot_heap w.params) s'.abs.heap) = true := by
  rw [pT_eq]; exact congrArg (·.1) (obsV hs)
theorem look2 {w : World} {os : OsState} {s' : SharedT} (hs : theRun w os = some s') : openSeen qV looseV (importedModules PySem.Challenge.pw_dm0058_03.main.body) xtV true s'.abs = openGood qV looseV := by
  rw [pT_eq, PySem.W.Fast.te4187177175401517315]; exact congrArg (·.2.1) (obsV hs)
theorem look3 {w : World} {os : OsState} {s' : SharedT} (hs : theRun w os = some s') : Kas.map s'.abs.heap.get? = (KP PySem.Challenge.pw_dm0058_03 w.params).map (fun p => some p.2) := by
  rw [pT_eq]; exact congrArg (·.2.2.1) (obsV hs)
theorem topV {w : World} {os : OsState} {s' : SharedT} (hs : theRun w os = some s') : topFrom treeTable PySem.Challenge.pw_dm0058_03 w 4600 ⟨boot_heap w.params, #[], boot_drawn, boot_toks, os⟩ = some s'.abs := by
  obtain ⟨z1, z2, z3⟩ : _ ∧ _ ∧ _ := by simpa only [Prod.mk.injEq] using sizeV w
  unfold topFrom
  dsimp only
  rw [z1, z2, z3, runV hs]
  show (match staticsOk _ _ _ && namesBound _ _ && gensDone _ && laidKept _ _ with | true => _ | false => _) = _
  rw [look1 hs]
theorem someV (w : World) (os : OsState) : ∃ s', theRun w os = some s' := by
  have b := bigV w os
  revert b
  generalize theRun w os = x
  cases x with
  | none => intro b; cases b
  | some s' => intro _; exact ⟨s', rfl⟩
theorem look3' {w : World} {os : OsState} {s' : SharedT} (hs : theRun w os = some s') : Hook.obs hkV s'.abs = Hook.val hkV w := look3 hs
theorem lookV {w : World} {os : OsState} {s' : SharedT} (hs : theRun w os = some s') : (topFrom treeTable PySem.Challenge.pw_dm0058_03 w 4600 ⟨boot_heap w.params, #[], boot_drawn, boot_toks, os⟩).map (fun s => (openSeen qV looseV (importedModules PySem.Challenge.pw_dm0058_03.main.body) xtV true s, Hook.obs hkV s)) = some (openGood qV looseV, Hook.val hkV w) := by
  rw [topV hs]
  show some (openSeen qV looseV (importedModules PySem.Challenge.pw_dm0058_03.main.body) xtV true s'.abs, Hook.obs hkV s'.abs) = _
  rw [look2 hs, look3' hs]
theorem bootV' (w : World) : ∃ os, fencedOpening treeTable PySem.Challenge.pw_dm0058_03 w 4600 = some ⟨boot_heap w.params, #[], boot_drawn, boot_toks, os⟩ := by
  have b := bootV w
  revert b
  generalize fencedOpening treeTable PySem.Challenge.pw_dm0058_03 w 4600 = x
  cases x with
  | none => intro b; cases b
  | some s =>
    obtain ⟨h, gs, d, k, os⟩ := s
    intro b
    have b := Option.some.inj b
    have e1 : h = boot_heap w.params := congrArg (·.1) b
    have e2 : gs = #[] := congrArg (·.2.1) b
    have e3 : d = boot_drawn := congrArg (·.2.2.1) b
    have e4 : k = boot_toks := congrArg (·.2.2.2) b
    exact ⟨os, by rw [e1, e2, e3, e4]⟩
theorem left : LeftO PySem.Challenge.pw_dm0058_03 qV looseV xtV (Hook.obs hkV) (Hook.val hkV) 4600 := by
  intro w
  obtain ⟨os, e⟩ := bootV' w
  obtain ⟨s', hs⟩ := someV w os
  unfold openEnds
  rw [e]
  rw [Option.bind_some]
  exact lookV hs
end Mine

open PySem PySem.W PyProof.Rows
set_option maxRecDepth 100000
namespace Mine

abbrev WalkGoal (w : World) (s : Shared) (l : Addr) : Prop :=
  wpAny (model PySem.Challenge.pw_dm0058_03 w) callerA (call (.ref 265) [.ref l])
    (fun v s' => v = .bool true ∧ OldK s.heap s'.heap ∧ s'.os = s.os ∧ AllBare s'.gens) (fun _ _ => False) s
theorem mg_law {w : World} {h : Heap} {mg : PySem.Str → Option Value} (X : (KP PySem.Challenge.pw_dm0058_03 w.params).In h) (g : h.Ns mainGlobals mg) : mg (S "law") = some (.ref 265) := by
  obtain ⟨o, es, ep, ho, hd, _, hm⟩ := g
  rw [← hm]
  have e := X 3 _ (show _ = some _ from rfl)
  rw [show mainGlobals = 3 from rfl, e] at ho
  cases ho
  cases hd
  kernel_rfl
set_option maxHeartbeats 8000000 in
theorem head (walk : ∀ (w : World) (s : Shared) (mean : ExcName → Option Value) (mg mb : PySem.Str → Option Value) (l : Addr) (vs : List Value) (ns : List Int),
      Top qV (looseW qV looseV) mean mg mb s.heap → (KP PySem.Challenge.pw_dm0058_03 w.params).In s.heap → s.gens = #[] → s.heap.IsList l vs.toArray → IntsAre vs ns → ns.length ≤ 63 →
      (PyData.list (ns.map PyData.int)).layable0 = true → WalkGoal w s l) : PySem.Challenge.rw_dm0058_03.Holds := by
  w_on
  o_law
  refine holds_open (q := qV) (loose := looseV) (Xt := xtV) (XP := XL qV []) (Yf := Hook.obs hkV) (Ya := Hook.val hkV) (YP := Hook.says hkV) (N := 4600) left (Hook.of hkV) (Hook.keeps hkV) (fun s e => xl_of s (Bool.and_eq_true_iff.mp e).1) XL.keeps (by rfl) (by rfl) (by rfl) (fun s e => recFacts_of (Bool.and_eq_true_iff.mp e).2) (by rfl) (by assumption) (by decide +kernel) ⟨rfl, rfl, rfl, rfl, rfl, by decide +kernel⟩ ?hw ?hc
  case hw => w_witness2
  intro w s₀ s₁ mg mb G Y fa o pm cd doc dV kV ho hd hcd hD hmg hg args vals as hpre hlay hrd hwl hlo
  have X : (KP PySem.Challenge.pw_dm0058_03 w.params).In s₁.heap := Y
  have T := G.T
  clear ho hd hcd hD Y
  have hfa : fa = 265 := by
    have h1 := mg_law X T.g
    have h2 : mg (S "law") = some (.ref fa) := hmg
    rw [h1] at h2
    cases h2
    rfl
  subst hfa
  clear hmg
  wrow_args hpre hlay hrd hwl hlo
  rename_i ns _ _ hL _ _ _ _ l vs _ hl _ _ _ hI _ hc _
  refine wpAny_mono (walk w s₁ _ mg mb l vs ns T X hg hl hI (by omega) hL) (fun v s' h => ?_) (fun _ _ h => h.elim)
  obtain ⟨hv, hk, hos, hb⟩ := h
  subst hv
  exact ⟨.inl ⟨_, .bool true, [], rfl, fun _ => rfl, .bool true, by kernel_rfl, fun _ => ⟨List.nodup_nil, fun _ h => by cases h⟩⟩, hk, hos, hb⟩
end Mine

open PySem PySem.W PyProof.Rows
namespace Mine
inductive AV where
  | none
  | bool (b : Bool)
  | int (i : Int)
  | str (s : PySem.Str)
  | flt (x : UInt64)
  | ref (a : Addr)
  | ty (n : String)
  | bi (id : String)
  | tup (xs : List AV)
  | mat (xs : List AV)
abbrev Loc := PySem.Str → Option AV
inductive AO where
  | list (xs : List AV)
  | ns (m : Loc)
  | atr (m : Loc)
  | obj (o : Obj)
abbrev Hp := Addr → Option AO
def Hp.set (hp : Hp) (a : Addr) (o : AO) : Hp := fun b => if b = a then some o else hp b
theorem Hp.set_same (hp : Hp) (a : Addr) (o : AO) : (hp.set a o) a = some o := by simp [Hp.set]
theorem Hp.set_ne (hp : Hp) {a b : Addr} (o : AO) (h : b ≠ a) : (hp.set a o) b = hp b := by simp [Hp.set, h]
theorem Hp.set_set (hp : Hp) (a : Addr) (o o' : AO) : (hp.set a o).set a o' = hp.set a o' := by
  funext b; by_cases h : b = a <;> simp [Hp.set, h]
theorem Hp.set_comm (hp : Hp) {a b : Addr} (o o' : AO) (h : a ≠ b) : (hp.set a o).set b o' = (hp.set b o').set a o := by
  funext c
  simp only [Hp.set]
  by_cases h1 : c = a
  · by_cases h2 : c = b
    · exact absurd (h1.symm.trans h2) h
    · simp [h1, h]
  · by_cases h2 : c = b
    · subst h2; simp [h1]
    · simp [h1, h2]
abbrev matC : Addr := 135
def Imm (o : Obj) : Prop := (o.cls = .type "tuple" ∨ o.cls = .ref matC) ∧ ∃ xs n, o.data = .seq xs n
def ImmLe (h h' : Heap) : Prop := ∀ b o, h.get? b = some o → Imm o → h'.get? b = some o
theorem ImmLe.refl (h : Heap) : ImmLe h h := fun _ _ e _ => e
theorem ImmLe.trans {h₁ h₂ h₃ : Heap} (x : ImmLe h₁ h₂) (y : ImmLe h₂ h₃) : ImmLe h₁ h₃ := fun b o e i => y b o (x b o e i) i
theorem ImmLe.keep {h h' : Heap} (x : ∀ b o, h.get? b = some o → h'.get? b = some o) : ImmLe h h' := fun b o e _ => x b o e
def IsMat (h : Heap) (a : Addr) (items : Array Value) : Prop := ∃ o, h.get? a = some o ∧ o.cls = .ref matC ∧ ∃ n, o.data = .seq items n
mutual
def VR (h : Heap) : AV → Value → Prop
  | .none, v => v = .none
  | .bool b, v => v = .bool b
  | .int i, v => ∃ t, v = .int i t
  | .str s, v => ∃ t, v = .str s t
  | .flt x, v => ∃ t, v = .float x t
  | .ref a, v => v = .ref a
  | .ty n, v => v = .type n
  | .bi n, v => v = .builtin n
  | .tup xs, v => ∃ a vs, v = .ref a ∧ IsTup h a vs ∧ VRs h xs vs.toList
  | .mat xs, v => ∃ a vs, v = .ref a ∧ IsMat h a vs ∧ VRs h xs vs.toList
def VRs (h : Heap) : List AV → List Value → Prop
  | [], vs => vs = []
  | x :: xs, vs => ∃ v r, vs = v :: r ∧ VR h x v ∧ VRs h xs r
end
theorem IsTup.imm {h h' : Heap} (le : ImmLe h h') {a : Addr} {vs : Array Value} (x : IsTup h a vs) : IsTup h' a vs := let ⟨o, ho, hc, n, r⟩ := x; ⟨o, le a o ho ⟨.inl hc, _, n, r⟩, hc, n, r⟩
theorem IsMat.imm {h h' : Heap} (le : ImmLe h h') {a : Addr} {vs : Array Value} (x : IsMat h a vs) : IsMat h' a vs := let ⟨o, ho, hc, n, r⟩ := x; ⟨o, le a o ho ⟨.inr hc, _, n, r⟩, hc, n, r⟩
mutual
theorem VR.mono {h h' : Heap} (le : ImmLe h h') : ∀ {x : AV} {v : Value}, VR h x v → VR h' x v
  | .none, _, e => by simpa only [VR] using e
  | .bool _, _, e => by simpa only [VR] using e
  | .int _, _, e => by simpa only [VR] using e
  | .str _, _, e => by simpa only [VR] using e
  | .flt _, _, e => by simpa only [VR] using e
  | .ref _, _, e => by simpa only [VR] using e
  | .ty _, _, e => by simpa only [VR] using e
  | .bi _, _, e => by simpa only [VR] using e
  | .tup xs, v, e => by
    simp only [VR] at e ⊢
    obtain ⟨a, vs, e1, e2, e3⟩ := e
    exact ⟨a, vs, e1, IsTup.imm le e2, VRs.mono le e3⟩
  | .mat xs, v, e => by
    simp only [VR] at e ⊢
    obtain ⟨a, vs, e1, e2, e3⟩ := e
    exact ⟨a, vs, e1, IsMat.imm le e2, VRs.mono le e3⟩
theorem VRs.mono {h h' : Heap} (le : ImmLe h h') : ∀ {xs : List AV} {vs : List Value}, VRs h xs vs → VRs h' xs vs
  | [], _, e => by simpa only [VRs] using e
  | x :: xs, vs, e => by
    simp only [VRs] at e ⊢
    obtain ⟨v, r, e1, e2, e3⟩ := e
    exact ⟨v, r, e1, VR.mono le e2, VRs.mono le e3⟩
end
theorem VRs.length {h : Heap} : ∀ {xs : List AV} {vs : List Value}, VRs h xs vs → vs.length = xs.length
  | [], _, e => by simp only [VRs] at e; subst e; rfl
  | x :: xs, vs, e => by
    simp only [VRs] at e
    obtain ⟨v, r, rfl, _, e3⟩ := e
    simp [VRs.length e3]
theorem VRs.append {h : Heap} : ∀ {xs ys : List AV} {vs ws : List Value}, VRs h xs vs → VRs h ys ws → VRs h (xs ++ ys) (vs ++ ws)
  | [], _, _, _, e, e' => by simp only [VRs] at e; subst e; exact e'
  | x :: xs, ys, vs, ws, e, e' => by
    simp only [VRs] at e
    obtain ⟨v, r, rfl, e2, e3⟩ := e
    simp only [List.cons_append, VRs]
    exact ⟨v, r ++ ws, rfl, e2, VRs.append e3 e'⟩
theorem VRs.one {h : Heap} {x : AV} {v : Value} (e : VR h x v) : VRs h [x] [v] := by simp only [VRs]; exact ⟨v, [], rfl, e, rfl⟩
theorem VRs.get {h : Heap} : ∀ {xs : List AV} {vs : List Value} {i : Nat} {x : AV}, VRs h xs vs → xs[i]? = some x → ∃ v, vs[i]? = some v ∧ VR h x v
  | [], _, _, _, _, e => by simp at e
  | y :: xs, vs, 0, x, e, hx => by
    simp only [VRs] at e
    obtain ⟨v, r, rfl, e2, _⟩ := e
    simp only [List.getElem?_cons_zero, Option.some.injEq] at hx
    subst hx
    exact ⟨v, rfl, e2⟩
  | y :: xs, vs, i + 1, x, e, hx => by
    simp only [VRs] at e
    obtain ⟨v, r, rfl, _, e3⟩ := e
    simp only [List.getElem?_cons_succ] at hx ⊢
    exact VRs.get e3 hx
theorem VRs.take {h : Heap} : ∀ {xs : List AV} {vs : List Value} (n : Nat), VRs h xs vs → VRs h (xs.take n) (vs.take n)
  | [], _, n, e => by simp only [VRs] at e; subst e; simp [VRs]
  | x :: xs, vs, 0, e => by simp [VRs]
  | x :: xs, vs, n + 1, e => by
    simp only [VRs] at e
    obtain ⟨v, r, rfl, e2, e3⟩ := e
    simp only [List.take_succ_cons, VRs]
    exact ⟨v, _, rfl, e2, VRs.take n e3⟩
theorem VRs.drop {h : Heap} : ∀ {xs : List AV} {vs : List Value} (n : Nat), VRs h xs vs → VRs h (xs.drop n) (vs.drop n)
  | [], _, n, e => by simp only [VRs] at e; subst e; simp [VRs]
  | x :: xs, vs, 0, e => by simpa using e
  | x :: xs, vs, n + 1, e => by
    simp only [VRs] at e
    obtain ⟨v, r, rfl, e2, e3⟩ := e
    simp only [List.drop_succ_cons]
    exact VRs.drop n e3
def LocR (h : Heap) (m : Loc) (mv : PySem.Str → Option Value) : Prop := (∀ x v, m x = some v → ∃ u, mv x = some u ∧ VR h v u) ∧ ∀ x, m x = none → mv x = none
def attrNames : List PySem.Str := ["isjunk", "a", "b", "autojunk", "matching_blocks", "opcodes", "fullbcount", "b2j", "bjunk", "bpopular"]
def OR (h : Heap) (a : Addr) : AO → Prop
  | .list xs => ∃ vs n, IsL h a vs n ∧ VRs h xs vs.toList
  | .ns m => ∃ mv, h.Ns a mv ∧ LocR h m mv
  | .atr m => ∃ mv, h.Ns1 a mv ∧ LocR h m mv ∧ Within mv attrNames
  | .obj o => h.get? a = some o ∧ ¬ Imm o
structure Rel (B : Shared) (hp : Hp) (s : Shared) : Prop where
  keep : ∀ b o, B.heap.get? b = some o → s.heap.get? b = some o
  objs : ∀ a o, hp a = some o → B.heap.objs.size ≤ a ∧ OR s.heap a o
  os : s.os = B.os
  bare : AllBare s.gens ∧ B.gens.size ≤ s.gens.size
  size : B.heap.objs.size ≤ s.heap.objs.size
theorem LocR.mono {h h' : Heap} (le : ImmLe h h') {m : Loc} {mv : PySem.Str → Option Value} (x : LocR h m mv) : LocR h' m mv := ⟨fun y v e => let ⟨u, a, b⟩ := x.1 y v e; ⟨u, a, b.mono le⟩, x.2⟩
theorem OR.here {h h' : Heap} (le : ImmLe h h') {a : Addr} (e : ∀ o, h.get? a = some o → h'.get? a = some o) : ∀ {o : AO}, OR h a o → OR h' a o
  | .list xs, ⟨vs, n, x, y⟩ => ⟨vs, n, e _ x, y.mono le⟩
  | .ns m, ⟨mv, ⟨o, es, ep, ho, r⟩, y⟩ => ⟨mv, ⟨o, es, ep, e _ ho, r⟩, y.mono le⟩
  | .atr m, ⟨mv, ⟨o, es, ep, ho, r⟩, y, z⟩ => ⟨mv, ⟨o, es, ep, e _ ho, r⟩, y.mono le, z⟩
  | .obj o, ⟨x, y⟩ => ⟨e _ x, y⟩
theorem OR.ex {h : Heap} {a : Addr} : ∀ {o : AO}, OR h a o → ∃ ob, h.get? a = some ob
  | .list _, ⟨_, _, x, _⟩ => ⟨_, x⟩
  | .ns _, ⟨_, ⟨o, _, _, ho, _⟩, _⟩ => ⟨o, ho⟩
  | .atr _, ⟨_, ⟨o, _, _, ho, _⟩, _⟩ => ⟨o, ho⟩
  | .obj _, ⟨x, _⟩ => ⟨_, x⟩
theorem Rel.lt {B s : Shared} {hp : Hp} (r : Rel B hp s) {a : Addr} {o : AO} (e : hp a = some o) : a < s.heap.objs.size := let ⟨_, h⟩ := (r.objs a o e).2.ex; Heap.lt_size h
theorem Rel.sub {B s : Shared} {hp hp' : Hp} (r : Rel B hp s) (le : ∀ a o, hp' a = some o → hp a = some o) : Rel B hp' s := ⟨r.keep, fun a o e => r.objs a o (le a o e), r.os, r.bare, r.size⟩
theorem Rel.toks {B s : Shared} {hp : Hp} (r : Rel B hp s) (t : Nat) : Rel B hp { s with toks := t } := ⟨r.keep, r.objs, r.os, r.bare, r.size⟩
theorem Rel.alloc {B s : Shared} {hp : Hp} (r : Rel B hp s) (ob : Obj) (o : AO) (ho : OR (s.heap.push ob) s.heap.objs.size o) : Rel B (hp.set s.heap.objs.size o) { s with heap := s.heap.push ob } where
  keep b o' e := Heap.get?_push_of_some _ (r.keep b o' e)
  objs a o' e := by
    by_cases h : a = s.heap.objs.size
    · subst h
      rw [Hp.set_same] at e
      cases e
      exact ⟨r.size, ho⟩
    · rw [Hp.set_ne _ _ h] at e
      have x := r.objs a o' e
      exact ⟨x.1, x.2.here (ImmLe.keep fun b o'' e => Heap.get?_push_of_some _ e) fun o'' e => Heap.get?_push_of_some _ e⟩
  os := r.os
  bare := r.bare
  size := Nat.le_trans r.size (by simp)
theorem Rel.push {B s : Shared} {hp : Hp} (r : Rel B hp s) (ob : Obj) : Rel B hp { s with heap := s.heap.push ob } where
  keep b o' e := Heap.get?_push_of_some _ (r.keep b o' e)
  objs a o' e := ⟨(r.objs a o' e).1, (r.objs a o' e).2.here (ImmLe.keep fun b o'' e => Heap.get?_push_of_some _ e) fun o'' e => Heap.get?_push_of_some _ e⟩
  os := r.os
  bare := r.bare
  size := Nat.le_trans r.size (by simp)
theorem Rel.fresh {B s : Shared} {hp : Hp} (r : Rel B hp s) : hp s.heap.objs.size = none := by
  cases h : hp s.heap.objs.size with
  | none => rfl
  | some o => exact absurd (r.lt h) (Nat.lt_irrefl _)
theorem OR.notImm {h : Heap} {a : Addr} : ∀ {o : AO}, OR h a o → ∀ ob, h.get? a = some ob → ¬ Imm ob
  | .list _, ⟨_, _, x, _⟩, ob, e => by
    rw [show h.get? a = _ from x] at e; cases e
    intro i
    rcases i with ⟨i | i, _⟩
    · exact absurd (Value.type.inj i) (by decide)
    · cases i
  | .ns _, ⟨_, ⟨o, es, ep, ho, hd, _⟩, _⟩, ob, e => by
    rw [ho] at e; cases e
    intro i; obtain ⟨_, xs, n, hd'⟩ := i
    rw [hd] at hd'; cases hd'
  | .atr _, ⟨_, ⟨o, es, ep, ho, hd, _⟩, _⟩, ob, e => by
    rw [ho] at e; cases e
    intro i; obtain ⟨_, xs, n, hd'⟩ := i
    rw [hd] at hd'; cases hd'
  | .obj _, ⟨x, y⟩, ob, e => by rw [x] at e; cases e; exact y
theorem Rel.turn {B s : Shared} {hp : Hp} (r : Rel B hp s) {a : Addr} {o : AO} (ha : hp a = some o) {h' : Heap} (hs : Heap.SameBut a s.heap h') (o' : AO) (ho : ImmLe s.heap h' → OR h' a o') (t : Nat) :
    Rel B (hp.set a o') { s with heap := h', toks := t } ∧ ImmLe s.heap h' := by
  have le : ImmLe s.heap h' := fun b ob e i => by
    by_cases h : b = a
    · subst h; exact absurd i ((r.objs b o ha).2.notImm ob e)
    · rw [hs.2 b h]; exact e
  refine ⟨⟨fun b ob e => ?_, fun b ob e => ?_, r.os, r.bare, by show _ ≤ h'.objs.size; rw [hs.1]; exact r.size⟩, le⟩
  · have : b ≠ a := by
      rintro rfl
      exact absurd (Heap.lt_size e) (Nat.not_lt.mpr (r.objs b o ha).1)
    show h'.get? b = some ob
    rw [hs.2 b this]; exact r.keep b ob e
  · by_cases h : b = a
    · subst h
      rw [Hp.set_same] at e
      cases e
      exact ⟨(r.objs b o ha).1, ho le⟩
    · rw [Hp.set_ne _ _ h] at e
      have x := r.objs b ob e
      exact ⟨x.1, x.2.here le fun o'' e => by show h'.get? b = some o''; rw [hs.2 b h]; exact e⟩
section
variable {M : Model} {A : Around} {E : Value → Shared → Prop} {B : Shared} {env : Env} {m : Loc} {hp : Hp}
def EV (M : Model) (A : Around) (E : Value → Shared → Prop) (B : Shared) (env : Env) (e : Expr) (m : Loc) (hp : Hp) (Q : AV → Hp → Prop) : Prop :=
  ∀ s, Rel B (hp.set env.locals (.ns m)) s → wpAny M A (eval e env) (fun v s' => ∃ av hp', Rel B (hp'.set env.locals (.ns m)) s' ∧ ImmLe s.heap s'.heap ∧ VR s'.heap av v ∧ Q av hp') E s
def TST (M : Model) (A : Around) (E : Value → Shared → Prop) (B : Shared) (env : Env) (e : Expr) (m : Loc) (hp : Hp) (Q : Bool → Hp → Prop) : Prop :=
  ∀ s, Rel B (hp.set env.locals (.ns m)) s → wpAny M A (isTrue e env (eval e env)) (fun b s' => ∃ hp', Rel B (hp'.set env.locals (.ns m)) s' ∧ ImmLe s.heap s'.heap ∧ Q b hp') E s
inductive AF where
  | next | brk | cont
  | ret (v : AV)
def FR (h : Heap) : AF → Flow → Prop
  | .next, f => f = .next
  | .brk, f => f = .brk
  | .cont, f => f = .cont
  | .ret v, f => ∃ u, f = .ret u ∧ VR h v u
def EX (M : Model) (A : Around) (E : Value → Shared → Prop) (B : Shared) (env : Env) (st : Stmt) (m : Loc) (hp : Hp) (Q : AF → Loc → Hp → Prop) : Prop :=
  ∀ s, Rel B (hp.set env.locals (.ns m)) s → wpAny M A (exec st env) (fun f s' => ∃ af m' hp', Rel B (hp'.set env.locals (.ns m')) s' ∧ ImmLe s.heap s'.heap ∧ FR s'.heap af f ∧ Q af m' hp') E s
def EXs (M : Model) (A : Around) (E : Value → Shared → Prop) (B : Shared) (env : Env) (sts : List Stmt) (m : Loc) (hp : Hp) (Q : AF → Loc → Hp → Prop) : Prop :=
  ∀ s, Rel B (hp.set env.locals (.ns m)) s → wpAny M A (execs sts env) (fun f s' => ∃ af m' hp', Rel B (hp'.set env.locals (.ns m')) s' ∧ ImmLe s.heap s'.heap ∧ FR s'.heap af f ∧ Q af m' hp') E s
theorem EXs_nil {Q : AF → Loc → Hp → Prop} (h : Q .next m hp) : EXs M A E B env [] m hp Q := fun s r => wpAny_execs_nil ⟨.next, m, hp, r, .refl _, rfl, h⟩
theorem EXs_cons {st : Stmt} {rest : List Stmt} {Q : AF → Loc → Hp → Prop}
    (h : EX M A E B env st m hp (fun f m' hp' => match f with | .next => EXs M A E B env rest m' hp' Q | f => Q f m' hp')) : EXs M A E B env (st :: rest) m hp Q := fun s r => by
  refine wpAny_execs_cons (wpAny_mono (h s r) (fun f s' x => ?_) fun _ _ x => x)
  obtain ⟨af, m', hp', r', le, hf, q⟩ := x
  cases af with
  | next => cases hf; exact wpAny_mono (q s' r') (fun f s'' ⟨af, m'', hp'', r'', le', hf, q⟩ => ⟨af, m'', hp'', r'', le.trans le', hf, q⟩) fun _ _ x => x
  | brk => cases hf; exact ⟨.brk, m', hp', r', le, rfl, q⟩
  | cont => cases hf; exact ⟨.cont, m', hp', r', le, rfl, q⟩
  | ret v => obtain ⟨u, rfl, hv⟩ := hf; exact ⟨.ret v, m', hp', r', le, ⟨u, rfl, hv⟩, q⟩
theorem EV_int {i : Int} {k pos} {Q : AV → Hp → Prop} (h : Q (.int i) hp) : EV M A E B env (.Constant (.int i) k pos) m hp Q := fun s r =>
  wpAny_Constant_int ⟨.int i, hp, r.toks _, .refl _, by simp only [VR]; exact ⟨_, rfl⟩, h⟩
theorem EV_strc {x : PySem.Str} {k pos} {Q : AV → Hp → Prop} (h : Q (.str x) hp) : EV M A E B env (.Constant (.str x) k pos) m hp Q := fun s r =>
  wpAny_Constant_str ⟨.str x, hp, r.toks _, .refl _, by simp only [VR]; exact ⟨_, rfl⟩, h⟩
theorem EV_none {k pos} {Q : AV → Hp → Prop} (h : Q .none hp) : EV M A E B env (.Constant .none k pos) m hp Q := fun s r =>
  wpAny_Constant_none ⟨.none, hp, r, .refl _, by simp only [VR], h⟩
theorem EV_boolc {b : Bool} {k pos} {Q : AV → Hp → Prop} (h : Q (.bool b) hp) : EV M A E B env (.Constant (.bool b) k pos) m hp Q := fun s r =>
  wpAny_Constant_bool ⟨.bool b, hp, r, .refl _, by simp only [VR], h⟩
theorem Rel.loc {s : Shared} (r : Rel B (hp.set env.locals (.ns m)) s) : ∃ mv, s.heap.Ns env.locals mv ∧ LocR s.heap m mv := (r.objs _ _ (Hp.set_same ..)).2
theorem EV_local {x : PySem.Str} {pos} {v : AV} {Q : AV → Hp → Prop} (hv : m x = some v) (h : Q v hp) (hk : env.scope.kind = .function := by rfl) (hl : env.kindOf x = some .local := by rfl)
    (hd : (x == ("__debug__" : PySem.Str)) = false := by decide) : EV M A E B env (.Name x pos) m hp Q := fun s r => by
  obtain ⟨mv, hn, hm⟩ := r.loc
  obtain ⟨u, hu, hvu⟩ := hm.1 x v hv
  exact wpAny_Name (wpAny_loadName_local hk hl hn hu ⟨v, hp, r, .refl _, hvu, h⟩) hd
theorem EV.use {e : Expr} {Q : AV → Hp → Prop} (h : EV M A E B env e m hp Q) {s : Shared} (r : Rel B (hp.set env.locals (.ns m)) s) {W : Value → Shared → Prop}
    (k : ∀ v s' av hp', Rel B (hp'.set env.locals (.ns m)) s' → ImmLe s.heap s'.heap → VR s'.heap av v → Q av hp' → W v s') : wpAny M A (eval e env) W E s :=
  wpAny_mono (h s r) (fun v s' ⟨av, hp', r', le, hv, q⟩ => k v s' av hp' r' le hv q) fun _ _ x => x
def OP2 (M : Model) (A : Around) (E : Value → Shared → Prop) (B : Shared) (env : Env) (f : Value → Value → Sem Value) (m : Loc) (a b : AV) (hp : Hp) (Q : AV → Hp → Prop) : Prop :=
  ∀ s u v, Rel B (hp.set env.locals (.ns m)) s → VR s.heap a u → VR s.heap b v → wpAny M A (f u v) (fun w s' => ∃ av hp', Rel B (hp'.set env.locals (.ns m)) s' ∧ ImmLe s.heap s'.heap ∧ VR s'.heap av w ∧ Q av hp') E s
theorem EV_BinOp {l r : Expr} {op : Operator} {pos} {Q : AV → Hp → Prop}
    (h : EV M A E B env l m hp fun a hp₁ => EV M A E B env r m hp₁ fun b hp₂ => OP2 M A E B env (binaryOp op) m a b hp₂ Q) : EV M A E B env (.BinOp l op r pos) m hp Q := fun s rel => by
  refine wpAny_BinOp (h.use rel fun u s₁ a hp₁ r₁ le₁ hu h₁ => h₁.use r₁ fun v s₂ b hp₂ r₂ le₂ hv h₂ => ?_)
  exact wpAny_mono (h₂ s₂ u v r₂ (hu.mono le₂) hv) (fun w s' ⟨av, hp', r', le, hw, q⟩ => ⟨av, hp', r', (le₁.trans le₂).trans le, hw, q⟩) fun _ _ x => x
theorem EV_Compare1 {l r : Expr} {op : CmpOp} {pos} {Q : AV → Hp → Prop}
    (h : EV M A E B env l m hp fun a hp₁ => EV M A E B env r m hp₁ fun b hp₂ => OP2 M A E B env (compareOp op) m a b hp₂ Q) (hm : behindInMarks op r = false := by with_unfolding_all rfl) : EV M A E B env (.Compare l [op] [r] pos) m hp Q := fun s rel => by
  refine wpAny_Compare1 (h.use rel fun u s₁ a hp₁ r₁ le₁ hu h₁ => h₁.use r₁ fun v s₂ b hp₂ r₂ le₂ hv h₂ => ?_) hm
  exact wpAny_mono (h₂ s₂ u v r₂ (hu.mono le₂) hv) (fun w s' ⟨av, hp', r', le, hw, q⟩ => ⟨av, hp', r', (le₁.trans le₂).trans le, hw, q⟩) fun _ _ x => x
def TRU (M : Model) (A : Around) (E : Value → Shared → Prop) (B : Shared) (env : Env) (m : Loc) (a : AV) (hp : Hp) (Q : Bool → Hp → Prop) : Prop :=
  ∀ s u, Rel B (hp.set env.locals (.ns m)) s → VR s.heap a u → wpAny M A (truthy u) (fun b s' => ∃ hp', Rel B (hp'.set env.locals (.ns m)) s' ∧ ImmLe s.heap s'.heap ∧ Q b hp') E s
theorem TST_Compare1 {l r : Expr} {op : CmpOp} {pos} {Q : Bool → Hp → Prop}
    (h : EV M A E B env l m hp fun a hp₁ => EV M A E B env r m hp₁ fun b hp₂ => OP2 M A E B env (compareOp op) m a b hp₂ fun c hp₃ => TRU M A E B env m c hp₃ Q) (hm : behindInMarks op r = false := by with_unfolding_all rfl) :
    TST M A E B env (.Compare l [op] [r] pos) m hp Q := fun s rel => by
  refine wpAny_isTrue_Compare1 (h.use rel fun u s₁ a hp₁ r₁ le₁ hu h₁ => h₁.use r₁ fun v s₂ b hp₂ r₂ le₂ hv h₂ => ?_) hm
  refine wpAny_mono (h₂ s₂ u v r₂ (hu.mono le₂) hv) (fun w s' ⟨av, hp', r', le, hw, q⟩ => ?_) fun _ _ x => x
  exact wpAny_mono (q s' w r' hw) (fun b s'' ⟨hp'', r'', le', q⟩ => ⟨hp'', r'', ((le₁.trans le₂).trans le).trans le', q⟩) fun _ _ x => x
theorem TRU_bool {b : Bool} {Q : Bool → Hp → Prop} (h : Q b hp) : TRU M A E B env m (.bool b) hp Q := fun s u r hu => by
  simp only [VR] at hu; subst hu
  exact wpAny_truthy_bool ⟨hp, r, .refl _, h⟩
theorem EX_If {test : Expr} {body orelse : List Stmt} {pos} {Q : AF → Loc → Hp → Prop}
    (h : TST M A E B env test m hp fun b hp' => if b then EXs M A E B env body m hp' Q else EXs M A E B env orelse m hp' Q) : EX M A E B env (.If test body orelse pos) m hp Q := fun s r => by
  refine wpAny_If (wpAny_mono (h s r) (fun b s' ⟨hp', r', le, q⟩ => ?_) fun _ _ x => x)
  cases b
  · exact wpAny_mono (q s' r') (fun f s'' ⟨af, m'', hp'', r'', le', hf, q⟩ => ⟨af, m'', hp'', r'', le.trans le', hf, q⟩) fun _ _ x => x
  · exact wpAny_mono (q s' r') (fun f s'' ⟨af, m'', hp'', r'', le', hf, q⟩ => ⟨af, m'', hp'', r'', le.trans le', hf, q⟩) fun _ _ x => x
def upd (m : Loc) (x : PySem.Str) (v : AV) : Loc := fun y => if y = x then some v else m y
theorem LocR.upd {h : Heap} {mv : PySem.Str → Option Value} (x : LocR h m mv) {y : PySem.Str} {v : AV} {u : Value} (hv : VR h v u) : LocR h (Mine.upd m y v) (fun z => if z = y then some u else mv z) := ⟨fun z w e => by
  by_cases hz : z = y
  · simp only [Mine.upd, hz, if_true, Option.some.injEq] at e ⊢; subst e; exact ⟨u, rfl, hv⟩
  · simp only [Mine.upd, hz, if_false] at e ⊢; exact x.1 z w e, fun z e => by
  by_cases hz : z = y
  · simp [Mine.upd, hz] at e
  · simp only [Mine.upd, hz, if_false] at e ⊢; exact x.2 z e⟩
theorem store_local {x : PySem.Str} {v : AV} {u : Value} {s : Shared} {W : Unit → Shared → Prop} (r : Rel B (hp.set env.locals (.ns m)) s) (hv : VR s.heap v u)
    (k : ∀ s', Rel B (hp.set env.locals (.ns (upd m x v))) s' → ImmLe s.heap s'.heap → W () s') (hl : env.kindOf x = some .local := by rfl)
    (hp' : (env.scope.kind == .class || (env.scope.kind == .module && env.locals != env.globals)) = false := by rfl) : wpAny M A (storeName env x u) W E s := by
  obtain ⟨mv, hn, hm⟩ := r.loc
  refine wpAny_storeName_local hl hn (fun h' hn' hs => ?_) hp'
  have t := r.turn (Hp.set_same ..) hs (.ns (upd m x v)) (fun le => ⟨_, hn', LocR.upd (hm.mono le) (hv.mono le)⟩) (s.toks + 1)
  rw [Hp.set_set] at t
  exact k _ t.1 t.2
theorem EX_Assign {x : PySem.Str} {value : Expr} {pos pos'} {Q : AF → Loc → Hp → Prop} (h : EV M A E B env value m hp fun v hp' => Q .next (upd m x v) hp')
    (hl : env.kindOf x = some .local := by rfl) (hs : swapsWith value (some (.Name x pos')) pos.line env = pure false := by rfl)
    (hk : (env.scope.kind == .class || (env.scope.kind == .module && env.locals != env.globals)) = false := by rfl) : EX M A E B env (.Assign [.Name x pos'] value pos) m hp Q := fun s r =>
  wpAny_Assign_Name (h.use r fun u s₁ v hp₁ r₁ le₁ hu q => store_local r₁ hu (fun s' r' le => ⟨.next, _, hp₁, r', le₁.trans le, rfl, q⟩) hl hk) hs
theorem EX_AugAssign {x : PySem.Str} {op : Operator} {value : Expr} {pos pos'} {v : AV} {Q : AF → Loc → Hp → Prop} (hv : m x = some v)
    (h : EV M A E B env value m hp fun w hp' => OP2 M A E B env (inplaceOp op) m v w hp' fun r hp'' => Q .next (upd m x r) hp'')
    (hl : env.kindOf x = some .local := by rfl) (hf : env.scope.kind = .function := by rfl)
    (hk : (env.scope.kind == .class || (env.scope.kind == .module && env.locals != env.globals)) = false := by rfl) : EX M A E B env (.AugAssign (.Name x pos') op value pos) m hp Q := fun s r => by
  obtain ⟨mv, hn, hm⟩ := r.loc
  obtain ⟨u, hu, hvu⟩ := hm.1 x v hv
  refine wpAny_AugAssign_Name (wpAny_loadName_local hf hl hn hu (h.use r fun w s₁ b hp₁ r₁ le₁ hw h₁ => ?_))
  refine wpAny_mono (h₁ s₁ u w r₁ (hvu.mono le₁) hw) (fun z s₂ ⟨av, hp₂, r₂, le₂, hz, q⟩ => ?_) fun _ _ x => x
  exact store_local r₂ hz (fun s' r' le => ⟨.next, _, hp₂, r', (le₁.trans le₂).trans le, rfl, q⟩) hl hk
theorem EX_Return {e : Expr} {pos} {Q : AF → Loc → Hp → Prop} (h : EV M A E B env e m hp fun v hp' => Q (.ret v) m hp') : EX M A E B env (.Return (some e) pos) m hp Q := fun s r =>
  wpAny_Return_some (h.use r fun u s₁ v hp₁ r₁ le₁ hu q => ⟨.ret v, m, hp₁, r₁, le₁, ⟨u, rfl, hu⟩, q⟩)
theorem EX_Break {pos} {Q : AF → Loc → Hp → Prop} (h : Q .brk m hp) : EX M A E B env (.Break pos) m hp Q := fun s r => wpAny_Break ⟨.brk, m, hp, r, .refl _, rfl, h⟩
theorem EX_Continue {pos} {Q : AF → Loc → Hp → Prop} (h : Q .cont m hp) : EX M A E B env (.Continue pos) m hp Q := fun s r => wpAny_Continue ⟨.cont, m, hp, r, .refl _, rfl, h⟩
theorem EX_Pass {pos} {Q : AF → Loc → Hp → Prop} (h : Q .next m hp) : EX M A E B env (.Pass pos) m hp Q := fun s r => wpAny_Pass ⟨.next, m, hp, r, .refl _, rfl, h⟩
end
end Mine

open PySem PySem.W PyProof.Rows
namespace Mine
section
variable {prog : Program} {w : World} {A : Around} {E : Value → Shared → Prop} {B : Shared} {env : Env} {m : Loc} {hp : Hp}
theorem VR_int {h : Heap} {i : Int} {t : Tok} : VR h (.int i) (.int i t) := by simp only [VR]; exact ⟨t, rfl⟩
theorem VR_bool {h : Heap} {b : Bool} : VR h (.bool b) (.bool b) := by simp only [VR]
theorem VR_str {h : Heap} {x : PySem.Str} {t : Tok} : VR h (.str x) (.str x t) := by simp only [VR]; exact ⟨t, rfl⟩
theorem VR_none {h : Heap} : VR h .none .none := by simp only [VR]
theorem VR_ref {h : Heap} {a : Addr} : VR h (.ref a) (.ref a) := by simp only [VR]
theorem OP_add {a b : Int} {Q : AV → Hp → Prop} (h : Q (.int (a + b)) hp) : OP2 (model prog w) A E B env (binaryOp .Add) m (.int a) (.int b) hp Q := fun s u v r hu hv => by
  simp only [VR] at hu hv; obtain ⟨t, rfl⟩ := hu; obtain ⟨t', rfl⟩ := hv
  exact PyProof.Rows.add_int ⟨_, hp, r.toks _, .refl _, VR_int, h⟩
theorem OP_sub {a b : Int} {Q : AV → Hp → Prop} (h : Q (.int (a - b)) hp) : OP2 (model prog w) A E B env (binaryOp .Sub) m (.int a) (.int b) hp Q := fun s u v r hu hv => by
  simp only [VR] at hu hv; obtain ⟨t, rfl⟩ := hu; obtain ⟨t', rfl⟩ := hv
  exact PyProof.Rows.sub_int ⟨_, hp, r.toks _, .refl _, VR_int, h⟩
theorem OP_mod {a b : Int} {Q : AV → Hp → Prop} (hb : b ≠ 0) (h : Q (.int (a.fmod b)) hp) : OP2 (model prog w) A E B env (binaryOp .Mod) m (.int a) (.int b) hp Q := fun s u v r hu hv => by
  simp only [VR] at hu hv; obtain ⟨t, rfl⟩ := hu; obtain ⟨t', rfl⟩ := hv
  exact PyProof.Rows.mod_int hb ⟨_, hp, r.toks _, .refl _, VR_int, h⟩
theorem OP_iadd {a b : Int} {Q : AV → Hp → Prop} (h : Q (.int (a + b)) hp) : OP2 (model prog w) A E B env (inplaceOp .Add) m (.int a) (.int b) hp Q := fun s u v r hu hv => by
  simp only [VR] at hu hv; obtain ⟨t, rfl⟩ := hu; obtain ⟨t', rfl⟩ := hv
  exact PyProof.Rows.iadd_int ⟨_, hp, r.toks _, .refl _, VR_int, h⟩
theorem OP_lt {a b : Int} {Q : AV → Hp → Prop} (h : Q (.bool (decide (a < b))) hp) : OP2 (model prog w) A E B env (compareOp .Lt) m (.int a) (.int b) hp Q := fun s u v r hu hv => by
  simp only [VR] at hu hv; obtain ⟨t, rfl⟩ := hu; obtain ⟨t', rfl⟩ := hv
  exact PyProof.Rows.lt_int ⟨_, hp, r, .refl _, VR_bool, h⟩
theorem OP_gt {a b : Int} {Q : AV → Hp → Prop} (h : Q (.bool (decide (b < a))) hp) : OP2 (model prog w) A E B env (compareOp .Gt) m (.int a) (.int b) hp Q := fun s u v r hu hv => by
  simp only [VR] at hu hv; obtain ⟨t, rfl⟩ := hu; obtain ⟨t', rfl⟩ := hv
  exact PyProof.Rows.gt_int ⟨_, hp, r, .refl _, VR_bool, h⟩
theorem OP_le {a b : Int} {Q : AV → Hp → Prop} (h : Q (.bool (decide (a ≤ b))) hp) : OP2 (model prog w) A E B env (compareOp .LtE) m (.int a) (.int b) hp Q := fun s u v r hu hv => by
  simp only [VR] at hu hv; obtain ⟨t, rfl⟩ := hu; obtain ⟨t', rfl⟩ := hv
  exact PyProof.Rows.le_int ⟨_, hp, r, .refl _, VR_bool, h⟩
theorem OP_ge {a b : Int} {Q : AV → Hp → Prop} (h : Q (.bool (decide (a ≥ b))) hp) : OP2 (model prog w) A E B env (compareOp .GtE) m (.int a) (.int b) hp Q := fun s u v r hu hv => by
  simp only [VR] at hu hv; obtain ⟨t, rfl⟩ := hu; obtain ⟨t', rfl⟩ := hv
  exact PyProof.Rows.ge_int ⟨_, hp, r, .refl _, VR_bool, h⟩
theorem OP_eq {a b : Int} {Q : AV → Hp → Prop} (h : Q (.bool (a == b)) hp) : OP2 (model prog w) A E B env (compareOp .Eq) m (.int a) (.int b) hp Q := fun s u v r hu hv => by
  simp only [VR] at hu hv; obtain ⟨t, rfl⟩ := hu; obtain ⟨t', rfl⟩ := hv
  exact PyProof.Rows.eq_int ⟨_, hp, r, .refl _, VR_bool, h⟩
theorem OP_ne {a b : Int} {Q : AV → Hp → Prop} (h : Q (.bool (a != b)) hp) : OP2 (model prog w) A E B env (compareOp .NotEq) m (.int a) (.int b) hp Q := fun s u v r hu hv => by
  simp only [VR] at hu hv; obtain ⟨t, rfl⟩ := hu; obtain ⟨t', rfl⟩ := hv
  exact PyProof.Rows.ne_int ⟨_, hp, r, .refl _, VR_bool, h⟩
theorem OP_eqs {a b : PySem.Str} {Q : AV → Hp → Prop} (h : Q (.bool (a == b)) hp) : OP2 (model prog w) A E B env (compareOp .Eq) m (.str a) (.str b) hp Q := fun s u v r hu hv => by
  simp only [VR] at hu hv; obtain ⟨t, rfl⟩ := hu; obtain ⟨t', rfl⟩ := hv
  exact PyProof.Rows.eq_str ⟨_, hp, r, .refl _, VR_bool, h⟩
theorem OP_nes {a b : PySem.Str} {Q : AV → Hp → Prop} (h : Q (.bool (a != b)) hp) : OP2 (model prog w) A E B env (compareOp .NotEq) m (.str a) (.str b) hp Q := fun s u v r hu hv => by
  simp only [VR] at hu hv; obtain ⟨t, rfl⟩ := hu; obtain ⟨t', rfl⟩ := hv
  exact PyProof.Rows.ne_str ⟨_, hp, r, .refl _, VR_bool, h⟩
def AV.isNone : AV → Bool
  | .none => true
  | _ => false
theorem VR.isNone {h : Heap} : ∀ {a : AV} {u : Value}, VR h a u → (u == Value.none) = a.isNone
  | .none, _, e => by simp only [VR] at e; subst e; rfl
  | .bool _, _, e => by simp only [VR] at e; subst e; rfl
  | .int _, _, e => by simp only [VR] at e; obtain ⟨_, rfl⟩ := e; rfl
  | .str _, _, e => by simp only [VR] at e; obtain ⟨_, rfl⟩ := e; rfl
  | .flt _, _, e => by simp only [VR] at e; obtain ⟨_, rfl⟩ := e; rfl
  | .ref _, _, e => by simp only [VR] at e; subst e; rfl
  | .ty _, _, e => by simp only [VR] at e; subst e; rfl
  | .bi _, _, e => by simp only [VR] at e; subst e; rfl
  | .tup _, _, e => by simp only [VR] at e; obtain ⟨_, _, rfl, _⟩ := e; rfl
  | .mat _, _, e => by simp only [VR] at e; obtain ⟨_, _, rfl, _⟩ := e; rfl
theorem OP_isNone {a : AV} {Q : AV → Hp → Prop} (h : Q (.bool a.isNone) hp) : OP2 (model prog w) A E B env (compareOp .Is) m a .none hp Q := fun s u v r hu hv => by
  simp only [VR] at hv; subst hv
  exact is_none ⟨_, hp, r, .refl _, by rw [hu.isNone]; exact VR_bool, h⟩
theorem OP_isNotNone {a : AV} {Q : AV → Hp → Prop} (h : Q (.bool (!a.isNone)) hp) : OP2 (model prog w) A E B env (compareOp .IsNot) m a .none hp Q := fun s u v r hu hv => by
  simp only [VR] at hv; subst hv
  exact isNot_none ⟨_, hp, r, .refl _, by rw [hu.isNone]; exact VR_bool, h⟩
theorem TST_value {e : Expr} {Q : Bool → Hp → Prop} (h : EV (model prog w) A E B env e m hp fun v hp' => TRU (model prog w) A E B env m v hp' Q)
    (he : isTrue e env (eval e env) = (do let v ← eval e env; standAt e.pos; holding [v] (truthy v)) := by rfl) : TST (model prog w) A E B env e m hp Q := fun s r => by
  refine wpAny_isTrue_value (h.use r fun u s₁ v hp₁ r₁ le₁ hu q => ?_) he
  exact wpAny_mono (q s₁ u r₁ hu) (fun b s'' ⟨hp'', r'', le', q⟩ => ⟨hp'', r'', le₁.trans le', q⟩) fun _ _ x => x
theorem TST_Not {x : Expr} {pos} {Q : Bool → Hp → Prop} (h : TST (model prog w) A E B env x m hp fun b hp' => Q (!b) hp') : TST (model prog w) A E B env (.UnaryOp .Not x pos) m hp Q := fun s r =>
  wpAny_isTrue_Not (h s r)
def ALLT (M : Model) (A : Around) (E : Value → Shared → Prop) (B : Shared) (env : Env) (op : BoolOp) (es : List Expr) (m : Loc) (hp : Hp) (Q : Bool → Hp → Prop) : Prop :=
  ∀ s, Rel B (hp.set env.locals (.ns m)) s → wpAny M A (allTrue op es env) (fun b s' => ∃ hp', Rel B (hp'.set env.locals (.ns m)) s' ∧ ImmLe s.heap s'.heap ∧ Q b hp') E s
theorem TST_BoolOp {op : BoolOp} {es : List Expr} {pos} {Q : Bool → Hp → Prop} (h : ALLT (model prog w) A E B env op es m hp Q) : TST (model prog w) A E B env (.BoolOp op es pos) m hp Q := fun s r => wpAny_isTrue_BoolOp (h s r)
theorem ALLT_And_nil {Q : Bool → Hp → Prop} (h : Q true hp) : ALLT (model prog w) A E B env .And [] m hp Q := fun s r => wpAny_allTrue_And_nil ⟨hp, r, .refl _, h⟩
theorem ALLT_Or_nil {Q : Bool → Hp → Prop} (h : Q false hp) : ALLT (model prog w) A E B env .Or [] m hp Q := fun s r => wpAny_allTrue_Or_nil ⟨hp, r, .refl _, h⟩
theorem ALLT_And_cons {x : Expr} {rest : List Expr} {Q : Bool → Hp → Prop} (h : TST (model prog w) A E B env x m hp fun b hp' => if b then ALLT (model prog w) A E B env .And rest m hp' Q else Q false hp') :
    ALLT (model prog w) A E B env .And (x :: rest) m hp Q := fun s r => by
  refine wpAny_allTrue_And_cons (wpAny_mono (h s r) (fun b s' ⟨hp', r', le, q⟩ => ?_) fun _ _ x => x)
  cases b
  · exact ⟨hp', r', le, q⟩
  · exact wpAny_mono (q s' r') (fun b s'' ⟨hp'', r'', le', q⟩ => ⟨hp'', r'', le.trans le', q⟩) fun _ _ x => x
theorem ALLT_Or_cons {x : Expr} {rest : List Expr} {Q : Bool → Hp → Prop} (h : TST (model prog w) A E B env x m hp fun b hp' => if b then Q true hp' else ALLT (model prog w) A E B env .Or rest m hp' Q) :
    ALLT (model prog w) A E B env .Or (x :: rest) m hp Q := fun s r => by
  refine wpAny_allTrue_Or_cons (wpAny_mono (h s r) (fun b s' ⟨hp', r', le, q⟩ => ?_) fun _ _ x => x)
  cases b
  · exact wpAny_mono (q s' r') (fun b s'' ⟨hp'', r'', le', q⟩ => ⟨hp'', r'', le.trans le', q⟩) fun _ _ x => x
  · exact ⟨hp', r', le, q⟩
theorem TRU_int {a : Int} {Q : Bool → Hp → Prop} (h : Q (a != 0) hp) : TRU (model prog w) A E B env m (.int a) hp Q := fun s u r hu => by
  simp only [VR] at hu; obtain ⟨t, rfl⟩ := hu
  exact PySem.P.truthy_int ⟨hp, r, .refl _, h⟩
theorem Rel.at {s : Shared} (r : Rel B (hp.set env.locals (.ns m)) s) {a : Addr} {o : AO} (ha : hp a = some o) (hL : a ≠ env.locals) : OR s.heap a o := (r.objs a o (by rw [Hp.set_ne _ _ hL]; exact ha)).2
theorem TRU_list {a : Addr} {xs : List AV} {Q : Bool → Hp → Prop} (ha : hp a = some (.list xs)) (hL : a ≠ env.locals) (hsz : xs.length ≤ sizeLine) (h : Q (!xs.isEmpty) hp) : TRU (model prog w) A E B env m (.ref a) hp Q := fun s u r hu => by
  simp only [VR] at hu; subst hu
  obtain ⟨vs, n, hl, hv⟩ := r.at ha hL
  have hlen := hv.length
  refine wpAny_truthy_list hl.isList (by have : vs.size ≤ sizeLine := by rw [← Array.length_toList]; omega
                                         have := sizeLine_eq; omega) ⟨hp, r.toks _, .refl _, ?_⟩
  have : vs.isEmpty = xs.isEmpty := by
    rw [← Array.isEmpty_toList]
    cases hx : xs with
    | nil => rw [hx] at hlen; simp at hlen; rw [List.isEmpty_iff.mpr]; rfl; exact List.length_eq_zero_iff.mp (by simpa using hlen)
    | cons y ys => rw [hx] at hlen; cases hv' : vs.toList with
      | nil => rw [hv'] at hlen; simp at hlen
      | cons z zs => rfl
  rw [this]; exact h
end
end Mine

open PySem PySem.W PyProof.Rows
namespace Mine
section
variable {prog : Program} {w : World} {A : Around} {E : Value → Shared → Prop} {B : Shared} {env : Env} {m : Loc} {hp : Hp}
def EVS (M : Model) (A : Around) (E : Value → Shared → Prop) (B : Shared) (env : Env) (es : List Expr) (m : Loc) (hp : Hp) (Q : List AV → Hp → Prop) : Prop :=
  ∀ (pos : Pos) s, Rel B (hp.set env.locals (.ns m)) s → wpAny M A (spliced (backTo pos (starEach es env))) (fun vs s' => ∃ avs hp', Rel B (hp'.set env.locals (.ns m)) s' ∧ ImmLe s.heap s'.heap ∧ VRs s'.heap avs vs ∧ Q avs hp') E s
theorem EVS_nil {Q : List AV → Hp → Prop} (h : Q [] hp) : EVS (model prog w) A E B env [] m hp Q := fun _ s r => wpAny_items_nil ⟨[], hp, r, .refl _, by simp only [VRs], h⟩
theorem EVS_cons {e : Expr} {rest : List Expr} {Q : List AV → Hp → Prop} (h : EV (model prog w) A E B env e m hp fun v hp' => EVS (model prog w) A E B env rest m hp' fun vs hp'' => Q (v :: vs) hp'')
    (he : starEach (e :: rest) env = (false, eval e env) :: starEach rest env := by rfl) : EVS (model prog w) A E B env (e :: rest) m hp Q := fun pos s r => by
  refine wpAny_items_cons (h.use r fun u s₁ v hp₁ r₁ le₁ hu q => ?_) he
  refine wpAny_mono (q pos s₁ r₁) (fun vs s₂ ⟨avs, hp₂, r₂, le₂, hv, q⟩ => ?_) fun _ _ x => x
  exact ⟨v :: avs, hp₂, r₂, le₁.trans le₂, by simp only [VRs]; exact ⟨u, vs, rfl, hu.mono le₂, hv⟩, q⟩
theorem Rel.newAt {s : Shared} (r : Rel B (hp.set env.locals (.ns m)) s) (ob : Obj) (o : AO) (ho : OR (s.heap.push ob) s.heap.objs.size o) :
    Rel B ((hp.set s.heap.objs.size o).set env.locals (.ns m)) { s with heap := s.heap.push ob } ∧ hp s.heap.objs.size = none ∧ s.heap.objs.size ≠ env.locals ∧ ImmLe s.heap (s.heap.push ob) := by
  have f := r.fresh
  have hne : s.heap.objs.size ≠ env.locals := fun e => by rw [e, Hp.set_same] at f; cases f
  refine ⟨?_, by rw [Hp.set_ne _ _ hne] at f; exact f, hne, ImmLe.keep fun b o'' e => Heap.get?_push_of_some _ e⟩
  have := r.alloc ob o ho
  rw [Hp.set_comm _ _ _ (Ne.symm hne)] at this
  exact this
theorem EV_Tuple {es : List Expr} {k pos} {Q : AV → Hp → Prop} (h : EVS (model prog w) A E B env es m hp fun vs hp' => vs.length ≤ sizeLine ∧ Q (.tup vs) hp') : EV (model prog w) A E B env (.Tuple es k pos) m hp Q := fun s r => by
  refine wpAny_Tuple (wpAny_mono (h pos s r) (fun vs s₁ ⟨avs, hp₁, r₁, le₁, hv, hlen, q⟩ => ?_) fun _ _ x => x)
  refine ⟨by rw [hv.length]; exact hlen, ?_⟩
  have le : ImmLe s₁.heap (s₁.heap.push { cls := .type "tuple", data := .seq vs.toArray }) := ImmLe.keep fun b o'' e => Heap.get?_push_of_some _ e
  exact ⟨.tup avs, hp₁, r₁.push _, le₁.trans le, by simp only [VR]; exact ⟨_, vs.toArray, rfl, ⟨_, Heap.get?_push_size _ rfl, rfl, _, rfl⟩, by simpa using hv.mono le⟩, q⟩
theorem EV_List {es : List Expr} {pos} {Q : AV → Hp → Prop} (h : EVS (model prog w) A E B env es m hp fun vs hp' => vs.length ≤ sizeLine ∧ ∀ a, hp' a = none → a ≠ env.locals → Q (.ref a) (hp'.set a (.list vs))) :
    EV (model prog w) A E B env (.List es pos) m hp Q := fun s r => by
  refine wpAny_List (wpAny_mono (h pos s r) (fun vs s₁ ⟨avs, hp₁, r₁, le₁, hv, hlen, q⟩ => ?_) fun _ _ x => x)
  refine ⟨by rw [hv.length]; exact hlen, ?_⟩
  have n := r₁.newAt { cls := .type "list", data := .seq vs.toArray } (.list avs) ⟨vs.toArray, 0, IsL.new _ _, by
    have le : ImmLe s₁.heap (s₁.heap.push { cls := .type "list", data := .seq vs.toArray }) := ImmLe.keep fun b o'' e => Heap.get?_push_of_some _ e
    simpa using hv.mono le⟩
  exact ⟨.ref _, _, n.1, le₁.trans n.2.2.2, VR_ref, q _ n.2.1 n.2.2.1⟩
def SUB (M : Model) (A : Around) (E : Value → Shared → Prop) (B : Shared) (env : Env) (value slice : Expr) (m : Loc) (o i : AV) (hp : Hp) (Q : AV → Hp → Prop) : Prop :=
  ∀ s u v, Rel B (hp.set env.locals (.ns m)) s → VR s.heap o u → VR s.heap i v → wpAny M A (subscriptTail value slice u v) (fun w s' => ∃ av hp', Rel B (hp'.set env.locals (.ns m)) s' ∧ ImmLe s.heap s'.heap ∧ VR s'.heap av w ∧ Q av hp') E s
theorem EV_Subscript {value slice : Expr} {pos} {Q : AV → Hp → Prop}
    (h : EV (model prog w) A E B env value m hp fun o hp₁ => EV (model prog w) A E B env slice m hp₁ fun i hp₂ => SUB (model prog w) A E B env value slice m o i hp₂ Q) : EV (model prog w) A E B env (.Subscript value slice pos) m hp Q := fun s rel => by
  refine Subscript_ (h.use rel fun u s₁ a hp₁ r₁ le₁ hu h₁ => h₁.use r₁ fun v s₂ b hp₂ r₂ le₂ hv h₂ => ?_)
  exact wpAny_mono (h₂ s₂ u v r₂ (hu.mono le₂) hv) (fun w s' ⟨av, hp', r', le, hw, q⟩ => ⟨av, hp', r', (le₁.trans le₂).trans le, hw, q⟩) fun _ _ x => x
theorem SUB_tup {value slice : Expr} {xs : List AV} {k : Int} {j : Nat} {x : AV} {Q : AV → Hp → Prop} (hlo : -(2 ^ 63) ≤ k) (hhi : k < 2 ^ 63) (hj : seqIndex? k xs.length = some j) (hx : xs[j]? = some x) (h : Q x hp)
    (hs : ∀ t u, subscripted slice false (.ref t) (.int k u) = operate [.ref t, .int k u] (getItem (.ref t) (.int k u)) := by intro _ _; with_unfolding_all rfl) :
    SUB (model prog w) A E B env value slice m (.tup xs) (.int k) hp Q := fun s u v r hu hv => by
  simp only [VR] at hu hv; obtain ⟨t, rfl⟩ := hv; obtain ⟨a, vs, rfl, ht, hvs⟩ := hu
  obtain ⟨y, hy, hxy⟩ := hvs.get hx
  exact item_tupleT (l := vs.toList) (by simpa using ht) hlo hhi (by rw [hvs.length]; exact hj) hy ⟨x, hp, r, .refl _, hxy, h⟩ (hs _ _)
def Lst (B : Shared) (hp : Hp) (L a : Addr) (xs : List AV) : Prop := (hp a = some (.list xs) ∧ a ≠ L) ∨ ∃ vs, B.heap.IsList a vs ∧ VRs B.heap xs vs.toList
theorem Lst.own {B : Shared} {hp : Hp} {L a : Addr} {xs : List AV} (h : hp a = some (.list xs)) (hL : a ≠ L) : Lst B hp L a xs := .inl ⟨h, hL⟩
theorem Rel.lst {s : Shared} (r : Rel B (hp.set env.locals (.ns m)) s) {a : Addr} {xs : List AV} (h : Lst B hp env.locals a xs) : ∃ vs, s.heap.IsList a vs ∧ VRs s.heap xs vs.toList := by
  rcases h with ⟨ha, hL⟩ | ⟨vs, hl, hv⟩
  · obtain ⟨vs, n, hl, hv⟩ := r.at ha hL
    exact ⟨vs, hl.isList, hv⟩
  · obtain ⟨o, ho, rest⟩ := hl
    exact ⟨vs, ⟨o, r.keep _ _ ho, rest⟩, hv.mono (ImmLe.keep r.keep)⟩
theorem SUB_list {value slice : Expr} {a : Addr} {xs : List AV} {k : Int} {x : AV} {Q : AV → Hp → Prop} (hl : Lst B hp env.locals a xs) (h0 : 0 ≤ k) (hhi : k < 2 ^ 63) (hx : xs[k.toNat]? = some x) (h : Q x hp)
    (hs : ∀ u, subscripted slice false (.ref a) (.int k u) = operate [.ref a, .int k u] (getItem (.ref a) (.int k u)) := by intro _; with_unfolding_all rfl) :
    SUB (model prog w) A E B env value slice m (.ref a) (.int k) hp Q := fun s u v r hu hv => by
  simp only [VR] at hu hv; obtain ⟨t, rfl⟩ := hv; subst hu
  obtain ⟨vs, hl, hvs⟩ := r.lst hl
  obtain ⟨y, hy, hxy⟩ := hvs.get hx
  exact tail_any hl.typeIs slot_list_getitem.lookup (wpAny_getItem_list hl h0 hhi (by simpa using hy) ⟨x, hp, r, .refl _, hxy, h⟩) (hs _)
theorem SUB_listNeg {value slice : Expr} {a : Addr} {xs : List AV} {k : Int} {x : AV} {Q : AV → Hp → Prop} (hl : Lst B hp env.locals a xs) (h0 : k < 0) (hlo : -(2 ^ 63) ≤ k) (h1 : -(xs.length : Int) ≤ k) (hx : xs[(k + xs.length).toNat]? = some x) (h : Q x hp)
    (hs : ∀ u, subscripted slice false (.ref a) (.int k u) = operate [.ref a, .int k u] (getItem (.ref a) (.int k u)) := by intro _; with_unfolding_all rfl) :
    SUB (model prog w) A E B env value slice m (.ref a) (.int k) hp Q := fun s u v r hu hv => by
  simp only [VR] at hu hv; obtain ⟨t, rfl⟩ := hv; subst hu
  obtain ⟨vs, hl, hvs⟩ := r.lst hl
  obtain ⟨y, hy, hxy⟩ := hvs.get hx
  have hlen := hvs.length
  have hsz : (vs.size : Int) = xs.length := by rw [← Array.length_toList, hlen]
  refine tail_any hl.typeIs slot_list_getitem.lookup (wpAny_getItem_list_neg hl h0 ?_ hlo ?_ ⟨x, hp, r, .refl _, hxy, h⟩) (hs _)
  · rw [hsz]; exact h1
  · rw [hsz]; simpa using hy
def optE (M : Model) (A : Around) (E : Value → Shared → Prop) (B : Shared) (env : Env) (e : Option Expr) (m : Loc) (hp : Hp) (Q : AV → Hp → Prop) : Prop := match e with | some e => EV M A E B env e m hp Q | none => Q .none hp
theorem optE.use {e : Option Expr} {Q : AV → Hp → Prop} (h : optE (model prog w) A E B env e m hp Q) {s : Shared} (r : Rel B (hp.set env.locals (.ns m)) s) {W : Value → Shared → Prop}
    (k : ∀ v s' av hp', Rel B (hp'.set env.locals (.ns m)) s' → ImmLe s.heap s'.heap → VR s'.heap av v → Q av hp' → W v s') : wpAny (model prog w) A (evalPart e env) W E s := by
  cases e with
  | none => exact wpAny_pure (k _ _ .none hp r (.refl _) VR_none h)
  | some e => exact EV.use h r k
def partOf : AV → Option (Option Int)
  | .none => some none
  | .int i => some (some i)
  | _ => none
theorem VR.part {h : Heap} {a : AV} {v : Value} {k : Option Int} (hv : VR h a v) (e : partOf a = some k) : IsPart v k := by
  cases a with
  | none => simp only [partOf, Option.some.injEq] at e; simp only [VR] at hv; subst hv; subst e; exact .none
  | int i => simp only [partOf, Option.some.injEq] at e; simp only [VR] at hv; obtain ⟨t, rfl⟩ := hv; subst e; exact .int ..
  | _ => simp [partOf] at e
def pick {α : Type} (xs : List α) (lo hi : Option Int) : List α := (xs.drop (lo.elim 0 (clipAt xs.length))).take (hi.elim xs.length (clipAt xs.length) - lo.elim 0 (clipAt xs.length))
end
end Mine

open PySem PySem.W PyProof.Rows PySem.Calls
namespace Mine
structure Gnd (K : Frag) (B : Shared) : Prop where
  X : K.In B.heap
  top : ∃ mg mb, B.heap.Ns mainGlobals mg ∧ B.heap.Ns builtinsNs mb ∧ ∀ x : PySem.Str, x ≠ "__name__" → mb x = bootBuiltins x
  lim : B.heap.NoLimit
section
variable {prog : Program} {w : World} {A : Around} {E : Value → Shared → Prop} {B : Shared} {env : Env} {m : Loc} {hp : Hp} {K : Frag}
theorem EV_glob (G : Gnd K B) {x : PySem.Str} {pos} {v : Value} {av : AV} {Q : AV → Hp → Prop} (e : nsIn K mainGlobals x = some (some v)) (hv : ∀ h, VR h av v) (h : Q av hp)
    (hk : env.scope.kind = .function := by rfl) (hx : env.kindOf x = some .globalImplicit := by rfl) (hg : env.globals = mainGlobals := by rfl) (hd : (x == ("__debug__" : PySem.Str)) = false := by decide) :
    EV (model prog w) A E B env (.Name x pos) m hp Q := fun s r => by
  obtain ⟨mg, mb, g, b, bb⟩ := G.top
  exact Name_function_global hk hx (loadGlobal_global (hg ▸ g.keeps r.keep) (mg_of G.X g e) ⟨av, hp, r, .refl _, hv _, h⟩) hd
theorem EV_blt (G : Gnd K B) {x : PySem.Str} {pos} {v : Value} {av : AV} {Q : AV → Hp → Prop} (e : nsIn K mainGlobals x = some none) (hb : bootBuiltins x = some v) (hn : x ≠ "__name__") (hv : ∀ h, VR h av v) (h : Q av hp)
    (hk : env.scope.kind = .function := by rfl) (hx : env.kindOf x = some .globalImplicit := by rfl) (hg : env.globals = mainGlobals := by rfl) (hbl : env.builtins = builtinsNs := by rfl) (hd : (x == ("__debug__" : PySem.Str)) = false := by decide) :
    EV (model prog w) A E B env (.Name x pos) m hp Q := fun s r => by
  obtain ⟨mg, mb, g, b, bb⟩ := G.top
  exact Name_function_global hk hx (loadGlobal_builtin (hg ▸ g.keeps r.keep) (mg_none_of G.X g e) (hbl ▸ b.keeps r.keep) ((bb x hn).trans hb) ⟨av, hp, r, .refl _, hv _, h⟩) hd
theorem VR_bi {h : Heap} {n : String} : VR h (.bi n) (.builtin n) := by simp only [VR]
theorem VR_ty {h : Heap} {n : String} : VR h (.ty n) (.type n) := by simp only [VR]
def CL (M : Model) (A : Around) (E : Value → Shared → Prop) (B : Shared) (env : Env) (f : Value) (m : Loc) (avs : List AV) (hp : Hp) (Q : AV → Hp → Prop) : Prop :=
  ∀ s vs, Rel B (hp.set env.locals (.ns m)) s → VRs s.heap avs vs → wpAny M A (call f vs) (fun v s' => ∃ av hp', Rel B (hp'.set env.locals (.ns m)) s' ∧ ImmLe s.heap s'.heap ∧ VR s'.heap av v ∧ Q av hp') E s
theorem EV_CallB {func e : Expr} {rest : List Expr} {pos} {id : String} {Q : AV → Hp → Prop}
    (h : EV (model prog w) A E B env func m hp fun f hp₁ => f = .bi id ∧ EVS (model prog w) A E B env (e :: rest) m hp₁ fun vs hp₂ => CL (model prog w) A E B env (.builtin id) m vs hp₂ Q)
    (hc : eval (.Call func (e :: rest) [] pos) env = (do callWith pos (← eval func env) [] (backTo pos (starEach (e :: rest) env)) (backToKw pos (keywordEach [] env))) := by rfl)
    (he : starEach (e :: rest) env = (false, eval e env) :: starEach rest env := by rfl) (hplain : (backTo pos (starEach rest env)).any (·.1) = false := by rfl) :
    EV (model prog w) A E B env (.Call func (e :: rest) [] pos) m hp Q := fun s r => by
  refine Call_ (h.use r fun u s₁ f hp₁ r₁ le₁ hu ⟨hf, q⟩ => ?_) hc
  subst hf; simp only [VR] at hu; subst hu
  refine callWith_builtin1 (wpAny_mono (q pos s₁ r₁) (fun vs s₂ ⟨avs, hp₂, r₂, le₂, hv, q⟩ => ?_) fun _ _ x => x) he hplain
  exact wpAny_mono (q s₂ vs r₂ hv) (fun v s₃ ⟨av, hp₃, r₃, le₃, hv, q⟩ => ⟨av, hp₃, r₃, (le₁.trans le₂).trans le₃, hv, q⟩) fun _ _ x => x
theorem VRs_one {h : Heap} {a : AV} {vs : List Value} (x : VRs h [a] vs) : ∃ v, vs = [v] ∧ VR h a v := by
  simp only [VRs] at x; obtain ⟨v, r, rfl, h1, rfl⟩ := x; exact ⟨v, rfl, h1⟩
theorem VRs_two {h : Heap} {a b : AV} {vs : List Value} (x : VRs h [a, b] vs) : ∃ v u, vs = [v, u] ∧ VR h a v ∧ VR h b u := by
  simp only [VRs] at x; obtain ⟨v, r, rfl, h1, u, r', rfl, h2, rfl⟩ := x; exact ⟨v, u, rfl, h1, h2⟩
theorem CL_abs {a : Int} {Q : AV → Hp → Prop} (h : Q (.int (if a < 0 then -a else a)) hp) : CL (model prog w) A E B env (.builtin "abs") m [.int a] hp Q := fun s vs r hv => by
  obtain ⟨v, rfl, h1⟩ := VRs_one hv
  simp only [VR] at h1; obtain ⟨t, rfl⟩ := h1
  exact call_abs_int fun u tk => ⟨_, hp, r.toks _, .refl _, VR_int, h⟩
theorem CL_len {a : Addr} {xs : List AV} {Q : AV → Hp → Prop} (hl : Lst B hp env.locals a xs) (hsz : xs.length ≤ sizeLine) (h : Q (.int xs.length) hp) : CL (model prog w) A E B env (.builtin "len") m [.ref a] hp Q := fun s vs r hv => by
  obtain ⟨v, rfl, h1⟩ := VRs_one hv
  simp only [VR] at h1; subst h1
  obtain ⟨us, hl, hu⟩ := r.lst hl
  have e : us.size = xs.length := by rw [← Array.length_toList]; exact hu.length
  exact len_list hl (by rw [e]; have := sizeLine_eq; omega) ⟨_, hp, r.toks _, .refl _, by rw [e]; exact VR_int, h⟩
theorem EV_CallF {func e : Expr} {rest : List Expr} {pos} {f : Addr} {o : Obj} {fd : FuncData} {Q : AV → Hp → Prop} (G : Gnd K B) (ho : K.lookup f = some o) (hd : o.data = .func fd)
    (h : EV (model prog w) A E B env func m hp fun v hp₁ => v = .ref f ∧ EVS (model prog w) A E B env (e :: rest) m hp₁ fun vs hp₂ => CL (model prog w) A E B env (.ref f) m vs hp₂ Q)
    (hc : eval (.Call func (e :: rest) [] pos) env = (do callWith pos (← eval func env) [] (backTo pos (starEach (e :: rest) env)) (backToKw pos (keywordEach [] env))) := by rfl)
    (he : starEach (e :: rest) env = (false, eval e env) :: starEach rest env := by rfl) :
    EV (model prog w) A E B env (.Call func (e :: rest) [] pos) m hp Q := fun s r => by
  refine Call_ (h.use r fun u s₁ v hp₁ r₁ le₁ hu ⟨hf, q⟩ => ?_) hc
  subst hf; simp only [VR] at hu; subst hu
  refine callWith_def hd (wpAny_mono (q pos s₁ r₁) (fun vs s₂ ⟨avs, hp₂, r₂, le₂, hv, q⟩ => ?_) fun _ _ x => x) he
  exact ⟨r₂.keep _ _ (G.X _ _ ho), wpAny_mono (q s₂ vs r₂ hv) (fun v s₃ ⟨av, hp₃, r₃, le₃, hv, q⟩ => ⟨av, hp₃, r₃, (le₁.trans le₂).trans le₃, hv, q⟩) fun _ _ x => x⟩
def locOf : List (PySem.Str × AV) → Loc
  | [] => fun _ => none
  | (x, v) :: r => fun y => if y = x then some v else locOf r y
theorem locR_of {h : Heap} : ∀ {bs : List (PySem.Str × AV)} {us : List (PySem.Str × Value)}, us.map (·.1) = bs.map (·.1) → VRs h (bs.map (·.2)) (us.map (·.2)) → LocR h (locOf bs) (fun x => us.lookup x)
  | [], us, e, hv => by
    refine ⟨fun x v hx => by simp [locOf] at hx, fun x _ => ?_⟩
    cases us with
    | nil => rfl
    | cons _ _ => simp at e
  | (y, v) :: bs, us, e, hv => by
    cases us with
    | nil => simp at e
    | cons u us =>
      obtain ⟨z, u⟩ := u
      simp only [List.map_cons, List.cons.injEq] at e
      simp only [List.map_cons, VRs, List.cons.injEq] at hv
      obtain ⟨_, _, ⟨rfl, rfl⟩, h1, h2⟩ := hv
      obtain ⟨rfl, e2⟩ := e
      refine ⟨fun x x' hx => ?_, fun x hx => ?_⟩
      · simp only [locOf] at hx
        by_cases hz : x = z
        · subst hz
          simp only [if_true, Option.some.injEq] at hx
          subst hx
          exact ⟨u, by simp [List.lookup], h1⟩
        · simp only [hz, if_false] at hx
          obtain ⟨u', hu', hv'⟩ := (locR_of e2 h2).1 x x' hx
          exact ⟨u', by simp only [List.lookup]; rw [beq_eq_false_iff_ne.mpr hz]; exact hu', hv'⟩
      · simp only [locOf] at hx
        by_cases hz : x = z
        · simp [hz] at hx
        · simp only [hz, if_false] at hx
          have := (locR_of e2 h2).2 x hx
          simp only [List.lookup]; rw [beq_eq_false_iff_ne.mpr hz]; exact this
def retOf : AF → AV
  | .ret v => v
  | _ => .none
theorem retOf_VR {h : Heap} {fl : Flow} : ∀ {af : AF}, FR h af fl → VR h (retOf af) (match fl with | .ret v => v | _ => .none)
  | .next, e => by cases e; exact VR_none
  | .brk, e => by cases e; exact VR_none
  | .cont, e => by cases e; exact VR_none
  | .ret v, ⟨u, e, hu⟩ => by subst e; exact hu
def CD (M : Model) (A : Around) (E : Value → Shared → Prop) (B : Shared) (env : Env) (f : Value) (m : Loc) (avs : List AV) (hp : Hp) (Q : AV → Hp → Prop) : Prop :=
  ∀ s vs, Rel B (hp.set env.locals (.ns m)) s → VRs s.heap avs vs → codeAny M A (.call f ⟨vs, []⟩)
    (fun r s' => match r with | .ok (.ret v) => ∃ av hp', Rel B (hp'.set env.locals (.ns m)) s' ∧ ImmLe s.heap s'.heap ∧ VR s'.heap av v ∧ Q av hp' | .ok _ => False | .error e => E e s') s
theorem CD.cl {M : Model} {f : Value} {avs : List AV} {Q : AV → Hp → Prop} (h : CD M A E B env f m avs hp Q) : CL M A E B env f m avs hp Q := fun s vs r hv => wpAny_call (h s vs r hv)
theorem CD_def {f : Addr} {o : Obj} {fd : FuncData} {body : List Stmt} {avs : List AV} {bs : List (PySem.Str × AV)} {Q : AV → Hp → Prop} (G : Gnd K B) (ho : K.lookup f = some o) (hd : o.data = .func fd) (hcd : codeIn K fd.code fd.qualname = true)
    (hbody : fd.body = .stmts body) (hroom : A.depth < recursionLimit)
    (hbind : ∀ s vs, VRs s.heap avs vs → (∀ b o, B.heap.get? b = some o → s.heap.get? b = some o) → ∃ us : List (PySem.Str × Value), BindsTo s fd ⟨vs, []⟩ us ∧ us.reverse.map (·.1) = bs.map (·.1) ∧ VRs s.heap (bs.map (·.2)) (us.reverse.map (·.2)))
    (hloc : bs.all (fun x => fd.scope.names.lookup x.1 == some .local) = true) (hcell : ∀ x ∈ fd.scope.names, x.2 ≠ .cell)
    (h : ∀ L, hp L = none → L ≠ env.locals → EXs (model prog w) (A.deeper (callEnv fd L f)) (fun _ _ => False) B (callEnv fd L f) body (locOf bs) (hp.set env.locals (.ns m))
      (fun fl _ hp' => ∃ hp₂ : Hp, (∀ a o, (hp₂.set env.locals (.ns m)) a = some o → hp' a = some o ∧ a ≠ L) ∧ Q (retOf fl) hp₂))
    (hco : fd.scope.isCoroutine = false := by rfl) (hgen : fd.scope.isGenerator = false := by rfl) (hk : fd.scope.kind = .function := by rfl) :
    CD (model prog w) A E B env (.ref f) m avs hp Q := fun s vs r hv => by
  obtain ⟨us, hb, e1, e2⟩ := hbind s vs hv r.keep
  have nm : us.map (·.1) = (bs.map (·.1)).reverse := by rw [← e1, List.map_reverse, List.reverse_reverse]
  refine codeAny_call_def hroom (r.keep _ _ (G.X _ _ ho)) hd (G.lim.keeps r.keep) (codeRec_of (G.X.keeps r.keep) hcd) hbody hb hcell (fun x hx => ?_) (fun h₀ hns hk₀ => ?_) hco hgen hk
  · have : x.1 ∈ bs.map (·.1) := by
      rw [← List.mem_reverse, ← nm]
      exact List.mem_map_of_mem hx
    obtain ⟨y, hy, e⟩ := List.mem_map.mp this
    rw [← e]
    simpa using List.all_eq_true.mp hloc y hy
  · have hne : s.heap.objs.size ≠ env.locals := fun e => by have f := r.fresh; rw [e, Hp.set_same] at f; cases f
    have hfr : hp s.heap.objs.size = none := by have f := r.fresh; rw [Hp.set_ne _ _ hne] at f; exact f
    have le : ImmLe s.heap h₀ := ImmLe.keep hk₀
    have rel : Rel B ((hp.set env.locals (.ns m)).set (callEnv fd s.heap.objs.size f).locals (.ns (locOf bs))) { s with heap := h₀, toks := s.toks + us.length } := by
      refine ⟨fun b o e => hk₀ _ _ (r.keep b o e), fun a o' e => ?_, r.os, r.bare, ?_⟩
      · by_cases ha : a = s.heap.objs.size
        · subst ha
          rw [show (callEnv fd s.heap.objs.size f).locals = s.heap.objs.size from rfl, Hp.set_same] at e
          cases e
          exact ⟨r.size, _, hns, locR_of e1 (e2.mono le)⟩
        · rw [show (callEnv fd s.heap.objs.size f).locals = s.heap.objs.size from rfl, Hp.set_ne _ _ ha] at e
          exact ⟨(r.objs a o' e).1, (r.objs a o' e).2.here le fun o'' e => hk₀ _ _ e⟩
      · exact Nat.le_trans r.size (Nat.le_of_lt hns.lt)
    refine wpAny_mono (h _ hfr hne _ rel) (fun fl s' x => ?_) fun _ _ x => x.elim
    obtain ⟨af, m', hp', r', le', hf, hp₂, hsub, q⟩ := x
    refine ⟨retOf af, hp₂, r'.sub fun a o e => ?_, le.trans le', retOf_VR hf, q⟩
    have := hsub a o e
    rw [show (callEnv fd s.heap.objs.size f).locals = s.heap.objs.size from rfl, Hp.set_ne _ _ this.2]
    exact this.1
theorem CL_def {f : Addr} {o : Obj} {fd : FuncData} {body : List Stmt} {avs : List AV} {bs : List (PySem.Str × AV)} {Q : AV → Hp → Prop} (G : Gnd K B) (ho : K.lookup f = some o) (hd : o.data = .func fd) (hcd : codeIn K fd.code fd.qualname = true)
    (hbody : fd.body = .stmts body) (hroom : A.depth < recursionLimit)
    (hbind : ∀ s vs, VRs s.heap avs vs → (∀ b o, B.heap.get? b = some o → s.heap.get? b = some o) → ∃ us : List (PySem.Str × Value), BindsTo s fd ⟨vs, []⟩ us ∧ us.reverse.map (·.1) = bs.map (·.1) ∧ VRs s.heap (bs.map (·.2)) (us.reverse.map (·.2)))
    (hloc : bs.all (fun x => fd.scope.names.lookup x.1 == some .local) = true) (hcell : ∀ x ∈ fd.scope.names, x.2 ≠ .cell)
    (h : ∀ L, hp L = none → L ≠ env.locals → EXs (model prog w) (A.deeper (callEnv fd L f)) (fun _ _ => False) B (callEnv fd L f) body (locOf bs) (hp.set env.locals (.ns m))
      (fun fl _ hp' => ∃ hp₂ : Hp, (∀ a o, (hp₂.set env.locals (.ns m)) a = some o → hp' a = some o ∧ a ≠ L) ∧ Q (retOf fl) hp₂))
    (hco : fd.scope.isCoroutine = false := by rfl) (hgen : fd.scope.isGenerator = false := by rfl) (hk : fd.scope.kind = .function := by rfl) :
    CL (model prog w) A E B env (.ref f) m avs hp Q := (CD_def G ho hd hcd hbody hroom hbind hloc hcell h hco hgen hk).cl
theorem VRs_pick {h : Heap} {xs : List AV} {vs : Array Value} (hv : VRs h xs vs.toList) (lo hi : Option Int) : VRs h (pick xs lo hi) (slicePick vs lo hi none).toList := by
  rw [slicePick_plain]
  have e : vs.size = xs.length := by rw [← Array.length_toList]; exact hv.length
  rw [e]
  exact (hv.drop _).take _
theorem EV_Slice {value : Expr} {lower upper : Option Expr} {p pos} {Q : AV → Hp → Prop}
    (h : EV (model prog w) A E B env value m hp fun o hp₁ => optE (model prog w) A E B env lower m hp₁ fun lo hp₂ => optE (model prog w) A E B env upper m hp₂ fun hi hp₃ =>
      ∃ a xs kl ku, o = .ref a ∧ Lst B hp₃ env.locals a xs ∧ xs.length ≤ sizeLine ∧ partOf lo = some kl ∧ partOf hi = some ku ∧ ∀ b, hp₃ b = none → b ≠ env.locals → Q (.ref b) (hp₃.set b (.list (pick xs kl ku))))
    (ht : ∀ o r, letTemporaryGo value o r = pure () := by intro _ _; rfl) :
    EV (model prog w) A E B env (.Subscript value (.Slice lower upper none p) pos) m hp Q := fun s r => by
  refine wpAny_Subscript_list_slice (h.use r fun u s₁ o hp₁ r₁ le₁ hu h₁ => h₁.use r₁ fun vl s₂ lo hp₂ r₂ le₂ hl h₂ => h₂.use r₂ fun vu s₃ hi hp₃ r₃ le₃ hh h₃ => ?_) ht
  obtain ⟨a, xs, kl, ku, rfl, hls, hsz, pl, pu, q⟩ := h₃
  simp only [VR] at hu; subst hu
  obtain ⟨vs, hlst, hvs⟩ := r₃.lst hls
  have e : vs.size = xs.length := by rw [← Array.length_toList]; exact hvs.length
  refine ⟨a, vs, kl, ku, rfl, hlst, by rw [e]; exact hsz, (hl.mono le₃).part pl, hh.part pu, ?_⟩
  have r₄ := r₃.push { cls := .type "slice", data := .fields #[vl, vu, .none] }
  have le₄ : ImmLe s₃.heap (s₃.heap.push { cls := .type "slice", data := .fields #[vl, vu, .none] }) := ImmLe.keep fun b o'' e => Heap.get?_push_of_some _ e
  have n := Rel.newAt r₄ { cls := .type "list", data := .seq (slicePick vs kl ku none) } (.list (pick xs kl ku)) ⟨_, 0, IsL.new _ _, VRs_pick (hvs.mono (le₄.trans (ImmLe.keep fun b o'' e => Heap.get?_push_of_some _ e))) kl ku⟩
  have hs : (s₃.heap.push { cls := .type "slice", data := .fields #[vl, vu, .none] }).objs.size = s₃.heap.objs.size + 1 := by simp
  simp only [hs] at n
  exact ⟨.ref _, _, n.1, ((le₁.trans le₂).trans le₃).trans (le₄.trans n.2.2.2), VR_ref, q _ n.2.1 n.2.2.1⟩
theorem listMeth {name : PySem.Str} {id : String} {pl : Sem Bool} {s : Shared} {a : Addr} {xs : List AV} {Q : Value × List Value → Shared → Prop} (slot : Slot "list" name id) (hty : typeOf (.builtin id) = pure (.type "method_descriptor"))
    (r : Rel B (hp.set env.locals (.ns m)) s) (ha : hp a = some (.list xs)) (hL : a ≠ env.locals) (h : Q (.builtin id, [.ref a]) s) : wpAny (model prog w) A (getMethod (.ref a) name pl) Q E s := by
  obtain ⟨vs, n, hl, _⟩ := r.at ha hL
  exact getMethod_builtin hl.isList.typeIs PySem.F.plainAttrs_list slot hty (fun b e => by cases e; exact ⟨_, hl, rfl⟩) h
theorem EV_append {o e : Expr} {apos pos} {pl : Sem Bool} {Q : AV → Hp → Prop}
    (h : EV (model prog w) A E B env o m hp fun l hp₁ => ∃ a xs₁, l = .ref a ∧ hp₁ a = some (.list xs₁) ∧ a ≠ env.locals ∧ EVS (model prog w) A E B env [e] m hp₁ fun vs hp₂ => ∃ xs v, vs = [v] ∧ hp₂ a = some (.list xs) ∧ xs.length ≤ sizeLine ∧ Q .none (hp₂.set a (.list (xs ++ [v]))))
    (hc : eval (.Call (.Attribute o (PySem.Str.ofString "append") apos) [e] [] pos) env = (do
      let ov ← eval o env
      standAt apos.atName
      let (f, first) ← holding [ov] (getMethod ov (PySem.Str.ofString "append") pl)
      callWith pos f first (backTo pos (starEach [e] env)) []) := by rfl)
    (he : starEach [e] env = [(false, eval e env)] := by rfl) :
    EV (model prog w) A E B env (.Call (.Attribute o (PySem.Str.ofString "append") apos) [e] [] pos) m hp Q := fun s r => by
  refine MethodCall_ (pl := pl) (h.use r fun u s₁ l hp₁ r₁ le₁ hu x => ?_) hc
  obtain ⟨a, xs₁, rfl, ha, hL, q⟩ := x
  simp only [VR] at hu; subst hu
  refine listMeth slot_list_append type_list_append r₁ ha hL ?_
  refine callWith_method1 (wpAny_mono (q pos s₁ r₁) (fun vs s₂ ⟨avs, hp₂, r₂, le₂, hv, xs, v, e1, ha₂, hsz, q⟩ => ?_) fun _ _ x => x) he
  subst e1
  obtain ⟨y, rfl, hy⟩ := VRs_one hv
  obtain ⟨us, n, hl, hus⟩ := r₂.at ha₂ hL
  have e2 : us.size = xs.length := by rw [← Array.length_toList]; exact hus.length
  refine wpAny_list_append_plain (items := us) ⟨n, hl⟩ (fun h' hpl hs => ?_) (by rw [e2]; exact hsz)
  obtain ⟨n', hl'⟩ := hpl
  have t := r₂.turn (a := a) (by rw [Hp.set_ne _ _ hL]; exact ha₂) hs (.list (xs ++ [v])) (fun le => ⟨us.push y, n', hl', by rw [Array.toList_push]; exact (hus.mono le).append (VRs.one (hy.mono le))⟩) s₂.toks
  rw [Hp.set_comm _ _ _ (Ne.symm hL)] at t
  exact ⟨.none, _, t.1, (le₁.trans le₂).trans t.2, VR_none, q⟩
theorem EX_Expr {e : Expr} {pos} {Q : AF → Loc → Hp → Prop} (h : EV (model prog w) A E B env e m hp fun v hp' => (∀ a, v ≠ .ref a) ∧ (∀ xs, v ≠ .tup xs) ∧ (∀ xs, v ≠ .mat xs) ∧ Q .next m hp') (hi : interactive env = false := by rfl)
    (hs : swapsWith e none pos.line env = pure false := by rfl) : EX (model prog w) A E B env (.Expr e pos) m hp Q := fun s r => by
  refine wpAny_Expr (h.use r fun u s₁ v hp₁ r₁ le₁ hu q => ?_) hi hs
  have post : ∃ af m' hp', Rel B (hp'.set env.locals (.ns m')) s₁ ∧ ImmLe s.heap s₁.heap ∧ FR s₁.heap af .next ∧ Q af m' hp' := ⟨.next, m, hp₁, r₁, le₁, rfl, q.2.2.2⟩
  cases v with
  | ref a => exact absurd rfl (q.1 a)
  | tup xs => exact absurd rfl (q.2.1 xs)
  | mat xs => exact absurd rfl (q.2.2.1 xs)
  | none => simp only [VR] at hu; subst hu; exact post
  | bool b => simp only [VR] at hu; subst hu; exact post
  | int b => simp only [VR] at hu; obtain ⟨t, rfl⟩ := hu; exact post
  | str b => simp only [VR] at hu; obtain ⟨t, rfl⟩ := hu; exact post
  | flt b => simp only [VR] at hu; obtain ⟨t, rfl⟩ := hu; exact post
  | ty b => simp only [VR] at hu; subst hu; exact post
  | bi b => simp only [VR] at hu; subst hu; exact post
end
end Mine

open PySem PySem.W PyProof.Rows PySem.Calls
namespace Mine
section
variable {prog : Program} {w : World} {A : Around} {E : Value → Shared → Prop} {B : Shared} {env : Env} {m : Loc} {hp : Hp} {K : Frag}
theorem Rel.ext {s : Shared} (r : Rel B (hp.set env.locals (.ns m)) s) {h' : Heap} (he : Heap.ExtBut s.heap.objs.size s.heap h') (t : Nat) : Rel B (hp.set env.locals (.ns m)) { s with heap := h', toks := t } ∧ ImmLe s.heap h' := by
  have k : ∀ b o, s.heap.get? b = some o → h'.get? b = some o := fun b o e => he b o (Nat.ne_of_lt (Heap.lt_size e)) e
  refine ⟨⟨fun b o e => k b o (r.keep b o e), fun a o e => ⟨(r.objs a o e).1, (r.objs a o e).2.here (ImmLe.keep k) fun o' e' => k _ _ e'⟩, r.os, r.bare, ?_⟩, ImmLe.keep k⟩
  obtain ⟨h1, h2⟩ := r.objs env.locals _ (Hp.set_same ..)
  obtain ⟨ob, hob⟩ := h2.ex
  exact Nat.le_trans h1 (Nat.le_of_lt (Heap.lt_size (k _ _ hob)))
def ASG (M : Model) (A : Around) (E : Value → Shared → Prop) (B : Shared) (env : Env) (t : Expr) (x : AV) (m : Loc) (hp : Hp) (Q : Loc → Hp → Prop) : Prop :=
  ∀ s v, Rel B (hp.set env.locals (.ns m)) s → VR s.heap x v → wpAny M A (assign t env v) (fun _ s' => ∃ m' hp', Rel B (hp'.set env.locals (.ns m')) s' ∧ ImmLe s.heap s'.heap ∧ Q m' hp') E s
theorem ASG_Name {x : PySem.Str} {pos} {v : AV} {Q : Loc → Hp → Prop} (h : Q (upd m x v) hp) (hl : env.kindOf x = some .local := by rfl)
    (hk : (env.scope.kind == .class || (env.scope.kind == .module && env.locals != env.globals)) = false := by rfl) : ASG (model prog w) A E B env (.Name x pos) v m hp Q := fun s u r hu =>
  PyProof.Rows.assign_Name (store_local r hu (fun s' r' le => ⟨_, hp, r', le, h⟩) hl hk)
def ASGS (M : Model) (A : Around) (E : Value → Shared → Prop) (B : Shared) (env : Env) (ts : List (Value → Sem Unit)) (xs : List AV) (m : Loc) (hp : Hp) (Q : Loc → Hp → Prop) : Prop :=
  ∀ s vs, Rel B (hp.set env.locals (.ns m)) s → VRs s.heap xs vs → wpAny M A (assignInOrder ts vs) (fun _ s' => ∃ m' hp', Rel B (hp'.set env.locals (.ns m')) s' ∧ ImmLe s.heap s'.heap ∧ Q m' hp') E s
theorem ASGS_nil {Q : Loc → Hp → Prop} (h : Q m hp) : ASGS (model prog w) A E B env [] [] m hp Q := fun s vs r _ => assignInOrder_nil ⟨m, hp, r, .refl _, h⟩
theorem ASGS_cons {t : Expr} {ts : List (Value → Sem Unit)} {x : AV} {xs : List AV} {Q : Loc → Hp → Prop} (h : ASG (model prog w) A E B env t x m hp fun m' hp' => ASGS (model prog w) A E B env ts xs m' hp' Q) :
    ASGS (model prog w) A E B env (assign t env :: ts) (x :: xs) m hp Q := fun s vs r hv => by
  simp only [VRs] at hv
  obtain ⟨v, us, rfl, h1, h2⟩ := hv
  refine assignInOrder_cons (wpAny_mono (h s v r h1) (fun _ s₁ ⟨m₁, hp₁, r₁, le₁, q⟩ => ?_) fun _ _ x => x)
  exact wpAny_mono (q s₁ us r₁ (h2.mono le₁)) (fun _ s₂ ⟨m₂, hp₂, r₂, le₂, q⟩ => ⟨m₂, hp₂, r₂, le₁.trans le₂, q⟩) fun _ _ x => x
theorem ASGS_bind {x : PySem.Str} {ts : List (Value → Sem Unit)} {v : AV} {xs : List AV} {Q : Loc → Hp → Prop} (h : ASGS (model prog w) A E B env ts xs (upd m x v) hp Q) (hl : env.kindOf x = some .local := by rfl)
    (hk : (env.scope.kind == .class || (env.scope.kind == .module && env.locals != env.globals)) = false := by rfl) : ASGS (model prog w) A E B env (bindName env x :: ts) (v :: xs) m hp Q := fun s vs r hv => by
  simp only [VRs] at hv
  obtain ⟨v, us, rfl, h1, h2⟩ := hv
  refine assignInOrder_cons (bindName_ (store_local r h1 (fun s₁ r₁ le₁ => ?_) hl hk))
  exact wpAny_mono (h s₁ us r₁ (h2.mono le₁)) (fun _ s₂ ⟨m₂, hp₂, r₂, le₂, q⟩ => ⟨m₂, hp₂, r₂, le₁.trans le₂, q⟩) fun _ _ x => x
theorem ASG_Tuple {elts : List Expr} {k pos} {xs : List AV} {ts : List (Value → Sem Unit)} {Q : Loc → Hp → Prop} (hh : A.handled = none) (hts : (assignEach elts env).map (·.2) = ts) (hn : (assignEach elts env).length = xs.length) (hstar : (assignEach elts env).findIdx? (·.1) = none)
    (h : ASGS (model prog w) A E B env ts xs m hp Q) : ASG (model prog w) A E B env (.Tuple elts k pos) (.tup xs) m hp Q := fun s v r hv => by
  simp only [VR] at hv
  obtain ⟨a, vs, rfl, ht, hvs⟩ := hv
  refine assign_Tuple_tuple hh ht (by rw [hn, ← hvs.length, Array.length_toList]) hstar fun h' he => ?_
  obtain ⟨r', le⟩ := r.ext he s.toks
  rw [hts]
  exact wpAny_mono (h _ _ r' (hvs.mono le)) (fun _ s₂ ⟨m₂, hp₂, r₂, le₂, q⟩ => ⟨m₂, hp₂, r₂, le.trans le₂, q⟩) fun _ _ x => x
theorem EX_Assign2 {t₁ t₂ value : Expr} {pos} {Q : AF → Loc → Hp → Prop}
    (h : EV (model prog w) A E B env value m hp fun v hp₁ => ASG (model prog w) A E B env t₁ v m hp₁ fun m₂ hp₂ => ASG (model prog w) A E B env t₂ v m₂ hp₂ fun m₃ hp₃ => Q .next m₃ hp₃)
    (he : (assignEach [t₁, t₂] env).map (·.2) = [assign t₁ env, assign t₂ env] := by rfl) (hw : swappedStores [t₁, t₂] value env = pure none := by rfl) : EX (model prog w) A E B env (.Assign [t₁, t₂] value pos) m hp Q := fun s r => by
  refine wpAny_Assign_two (h.use r fun u s₁ v hp₁ r₁ le₁ hu q => ?_) he hw
  refine wpAny_mono (q s₁ u r₁ hu) (fun _ s₂ ⟨m₂, hp₂, r₂, le₂, q⟩ => ?_) fun _ _ x => x
  exact wpAny_mono (q s₂ u r₂ (hu.mono le₂)) (fun _ s₃ ⟨m₃, hp₃, r₃, le₃, q⟩ => ⟨.next, m₃, hp₃, r₃, (le₁.trans le₂).trans le₃, rfl, q⟩) fun _ _ x => x
theorem EX_Assign3 {t₁ t₂ t₃ value : Expr} {pos} {Q : AF → Loc → Hp → Prop}
    (h : EV (model prog w) A E B env value m hp fun v hp₁ => ASG (model prog w) A E B env t₁ v m hp₁ fun m₂ hp₂ => ASG (model prog w) A E B env t₂ v m₂ hp₂ fun m₃ hp₃ => ASG (model prog w) A E B env t₃ v m₃ hp₃ fun m₄ hp₄ => Q .next m₄ hp₄)
    (he : (assignEach [t₁, t₂, t₃] env).map (·.2) = [assign t₁ env, assign t₂ env, assign t₃ env] := by rfl) (hw : swappedStores [t₁, t₂, t₃] value env = pure none := by rfl) : EX (model prog w) A E B env (.Assign [t₁, t₂, t₃] value pos) m hp Q := fun s r => by
  refine wpAny_Assign_three (h.use r fun u s₁ v hp₁ r₁ le₁ hu q => ?_) he hw
  refine wpAny_mono (q s₁ u r₁ hu) (fun _ s₂ ⟨m₂, hp₂, r₂, le₂, q⟩ => ?_) fun _ _ x => x
  refine wpAny_mono (q s₂ u r₂ (hu.mono le₂)) (fun _ s₃ ⟨m₃, hp₃, r₃, le₃, q⟩ => ?_) fun _ _ x => x
  exact wpAny_mono (q s₃ u r₃ ((hu.mono le₂).mono le₃)) (fun _ s₄ ⟨m₄, hp₄, r₄, le₄, q⟩ => ⟨.next, m₄, hp₄, r₄, ((le₁.trans le₂).trans le₃).trans le₄, rfl, q⟩) fun _ _ x => x
theorem EX_AssignT {elts : List Expr} {k tpos} {value : Expr} {pos} {Q : AF → Loc → Hp → Prop}
    (h : EV (model prog w) A E B env value m hp fun v hp₁ => ASG (model prog w) A E B env (.Tuple elts k tpos) v m hp₁ fun m₂ hp₂ => Q .next m₂ hp₂)
    (hs : swapsWithSole [.Tuple elts k tpos] value pos.line env = pure false := by rfl) (hw : swappedStores [.Tuple elts k tpos] value env = pure none := by rfl) : EX (model prog w) A E B env (.Assign [.Tuple elts k tpos] value pos) m hp Q := fun s r => by
  refine Assign_Tuple (h.use r fun u s₁ v hp₁ r₁ le₁ hu q => ?_) hs hw
  exact wpAny_mono (q s₁ u r₁ hu) (fun _ s₂ ⟨m₂, hp₂, r₂, le₂, q⟩ => ⟨.next, m₂, hp₂, r₂, le₁.trans le₂, rfl, q⟩) fun _ _ x => x
theorem EX_AssignSw {elts : List Expr} {k tpos} {value : Expr} {pos} {names : List PySem.Str} {Q : AF → Loc → Hp → Prop} (hh : A.handled = none)
    (h : EV (model prog w) A E B env value m hp fun v hp₁ => ∃ xs, v = .tup xs ∧ names.length = xs.length ∧ ASGS (model prog w) A E B env (names.reverse.map fun n => bindName env n) xs.reverse m hp₁ fun m₂ hp₂ => Q .next m₂ hp₂)
    (hs : swapsWithSole [.Tuple elts k tpos] value pos.line env = pure false := by rfl) (hw : swappedStores [.Tuple elts k tpos] value env = pure (some names) := by rfl) : EX (model prog w) A E B env (.Assign [.Tuple elts k tpos] value pos) m hp Q := fun s r => by
  refine Assign_Tuple_swapped (names := names) (h.use r fun u s₁ v hp₁ r₁ le₁ hu q => ?_) hs hw
  obtain ⟨xs, rfl, hn, q⟩ := q
  simp only [VR] at hu
  obtain ⟨a, vs, rfl, ht, hvs⟩ := hu
  have e : names.length = vs.size := by rw [hn, ← hvs.length, Array.length_toList]
  rw [e]
  refine unpackItems_tuple hh ht fun h' he => ?_
  obtain ⟨r', le⟩ := r₁.ext he s₁.toks
  have hrev : ∀ {xs : List AV} {vs : List Value}, VRs h' xs vs → VRs h' xs.reverse vs.reverse := by
    intro xs
    induction xs with
    | nil => intro vs x; simp only [VRs] at x; subst x; simp [VRs]
    | cons x xs ih =>
      intro vs hx
      simp only [VRs] at hx
      obtain ⟨v, r, rfl, h1, h2⟩ := hx
      rw [List.reverse_cons, List.reverse_cons]
      exact (ih h2).append (VRs.one h1)
  exact wpAny_mono (q _ _ r' (hrev (hvs.mono le))) (fun _ s₂ ⟨m₂, hp₂, r₂, le₂, q⟩ => ⟨.next, m₂, hp₂, r₂, (le₁.trans le).trans le₂, rfl, q⟩) fun _ _ x => x
end
end Mine

open PySem PySem.W PyProof.Rows PySem.Calls
namespace Mine
def Hp.del (hp : Hp) (a : Addr) : Hp := fun b => if b = a then none else hp b
section
variable {prog : Program} {w : World} {A : Around} {E : Value → Shared → Prop} {B : Shared} {env : Env} {m : Loc} {hp : Hp} {K : Frag}
theorem Rel.drop {s : Shared} (r : Rel B (hp.set env.locals (.ns m)) s) {it : Addr} {ob : Obj} (hit : hp it = some (.obj ob)) (hL : it ≠ env.locals) {h' : Heap} (he : Heap.ExtBut it s.heap h') (t : Nat) :
    Rel B ((hp.del it).set env.locals (.ns m)) { s with heap := h', toks := t } ∧ ImmLe s.heap h' := by
  have hit' : (hp.set env.locals (.ns m)) it = some (.obj ob) := by rw [Hp.set_ne _ _ hL]; exact hit
  have le : ImmLe s.heap h' := fun b o e i => by
    by_cases hb : b = it
    · subst hb; exact absurd i ((r.objs _ _ hit').2.notImm _ e)
    · exact he b o hb e
  have hlow := (r.objs _ _ hit').1
  refine ⟨⟨fun b o e => he b o (fun hb => ?_) (r.keep b o e), fun a o e => ?_, r.os, r.bare, ?_⟩, le⟩
  · subst hb; exact absurd (Heap.lt_size e) (Nat.not_lt.mpr hlow)
  · have ha : a ≠ it := by
      rintro rfl
      rw [Hp.set_ne _ _ hL] at e
      simp [Hp.del] at e
    have e' : (hp.set env.locals (.ns m)) a = some o := by
      by_cases hl : a = env.locals
      · subst hl; rw [Hp.set_same] at e ⊢; exact e
      · rw [Hp.set_ne _ _ hl] at e ⊢; simpa [Hp.del, ha] using e
    exact ⟨(r.objs a o e').1, (r.objs a o e').2.here le fun o' e'' => he _ _ ha e''⟩
  · obtain ⟨h1, h2⟩ := r.objs env.locals _ (Hp.set_same ..)
    obtain ⟨ob', hob⟩ := h2.ex
    exact Nat.le_trans h1 (Nat.le_of_lt (Heap.lt_size (he _ _ (Ne.symm hL) hob)))
theorem letOwned_plain {target : Expr} {it : Addr} {v : Value} {ob : Obj} {n : String} {s : Shared} {W : Unit → Shared → Prop} {E' : Value → Shared → Prop} (h : s.heap.get? it = some ob) (hc : ob.cls = .type n)
    (hn : ["enumerate", "zip", "dict_itemiterator", "dict_reverseitemiterator", "odict_iterator", "itertools.zip_longest", "itertools.pairwise"].contains n = false) (hW : W () s) : wpAny (model prog w) A (letOwnedTupleGo target (.ref it) v) W E' s := by
  have tup : wpAny (model prog w) A (letOwnedTupleGo (.Tuple [] 0 ⟨0, 0, 0, 0⟩) (.ref it) v) W E' s := by
    cases v with
    | ref a =>
      refine wpAny_bind (wpAny_load h ?_)
      obtain ⟨c, d, dt, sl⟩ := ob
      dsimp only at hc
      subst hc
      cases dt with
      | fields vs => dsimp only; rw [hn]; exact wpAny_pure hW
      | _ => exact wpAny_pure hW
    | _ => exact wpAny_pure hW
  cases target with
  | Tuple => exact tup
  | List => exact tup
  | _ => exact wpAny_pure hW
theorem For_core {target : Expr} {body : List Stmt} {it : Addr} {n : Nat} {el : Nat → AV} {st : Nat → Obj → Prop} {I : Nat → Loc → Hp → Prop} {Q : AF → Loc → Hp → Prop} {R : Result → Shared → Prop} (hL : it ≠ env.locals)
    (imm : ∀ i ob, st i ob → ¬ Imm ob)
    (next : ∀ i m₂ hp₂ s ob, i < n → I i m₂ hp₂ → hp₂ it = some (.obj ob) → st i ob → Rel B (hp₂.set env.locals (.ns m₂)) s → ∀ (E' : Value → Shared → Prop) (W : Option Value → Shared → Prop),
      (∀ v h' t' ob', VR s.heap (el i) v → h'.get? it = some ob' → st (i + 1) ob' → Heap.SameBut it s.heap h' → W (some v) { s with heap := h', toks := t' }) → wpAny (model prog w) A (pyNext (.ref it)) W E' s)
    (stop : ∀ m₂ hp₂ s ob, I n m₂ hp₂ → hp₂ it = some (.obj ob) → st n ob → Rel B (hp₂.set env.locals (.ns m₂)) s → ∀ (E' : Value → Shared → Prop) (W : Option Value → Shared → Prop),
      (∀ h' t', Heap.ExtBut it s.heap h' → W none { s with heap := h', toks := t' }) → wpAny (model prog w) A (pyNext (.ref it)) W E' s)
    (hset : ∀ i m₂ hp₂ ob, I i m₂ hp₂ → I i m₂ (hp₂.set it (.obj ob)))
    (turn : ∀ i m₂ hp₂ ob, i < n → I i m₂ hp₂ → hp₂ it = some (.obj ob) → ASG (model prog w) A (fun _ _ => False) B env target (el i) m₂ hp₂ fun m₃ hp₃ => EXs (model prog w) A (fun _ _ => False) B env body m₃ hp₃ fun fl m₄ hp₄ =>
      match fl with | .next | .cont => I (i + 1) m₄ hp₄ ∧ hp₄ it = some (.obj ob) | .brk => Q .next m₄ hp₄ | .ret v => Q (.ret v) m₄ hp₄)
    (fin : ∀ m₂ hp₂, I n m₂ hp₂ → Q .next m₂ (hp₂.del it)) {s₀ : Shared}
    (hR : ∀ fl af m' hp' s', Rel B (hp'.set env.locals (.ns m')) s' → ImmLe s₀.heap s'.heap → FR s'.heap af fl → Q af m' hp' → R (.ok fl) s')
    {s : Shared} {ob : Obj} (h0 : I 0 m hp) (hob : hp it = some (.obj ob)) (hst : st 0 ob) (rel : Rel B (hp.set env.locals (.ns m)) s) (le₀ : ImmLe s₀.heap s.heap)
    (cl : ∀ i ob, st i ob → ∃ n, ob.cls = .type n ∧ ["enumerate", "zip", "dict_itemiterator", "dict_reverseitemiterator", "odict_iterator", "itertools.zip_longest", "itertools.pairwise"].contains n = false) :
    codeAny (model prog w) A (.forLoop target (.ref it) body [] env) R s := by
  refine codeAny_forLoop_any (fun k s' => ∃ i m₂ hp₂ ob, k = n - i ∧ i ≤ n ∧ I i m₂ hp₂ ∧ hp₂ it = some (.obj ob) ∧ st i ob ∧ Rel B (hp₂.set env.locals (.ns m₂)) s' ∧ ImmLe s₀.heap s'.heap) (fun k s' x => ?_) n ⟨0, m, hp, ob, rfl, Nat.zero_le _, h0, hob, hst, rel, le₀⟩
  obtain ⟨i, m₂, hp₂, ob, rfl, hi, hI, hob, hst, r, le⟩ := x
  by_cases hlt : i < n
  · refine next i m₂ hp₂ s' ob hlt hI hob hst r _ _ fun v h' t' ob' hv hg hst' hs => ?_
    have t := r.turn (a := it) (o := .obj ob) (by rw [Hp.set_ne _ _ hL]; exact hob) hs (.obj ob') (fun _ => ⟨hg, imm _ _ hst'⟩) t'
    rw [Hp.set_comm _ _ _ (Ne.symm hL)] at t
    obtain ⟨nm, hcl, hno⟩ := cl _ _ hst'
    refine letOwned_plain hg hcl hno ?_
    have hturn := turn i m₂ (hp₂.set it (.obj ob')) ob' hlt (hset _ _ _ _ hI) (Hp.set_same ..)
    refine wpAny_mono (hturn _ v t.1 (hv.mono t.2)) (fun _ s₃ ⟨m₃, hp₃, r₃, le₃, q⟩ => ?_) fun _ _ x => x.elim
    refine wpAny_mono (q s₃ r₃) (fun fl s₄ ⟨af, m₄, hp₄, r₄, le₄, hf, q⟩ => ?_) fun _ _ x => x.elim
    have leAll : ImmLe s₀.heap s₄.heap := ((le.trans t.2).trans le₃).trans le₄
    cases af with
    | next => cases hf; exact ⟨n - (i + 1), by omega, i + 1, m₄, hp₄, ob', rfl, hlt, q.1, q.2, hst', r₄, leAll⟩
    | cont => cases hf; exact ⟨n - (i + 1), by omega, i + 1, m₄, hp₄, ob', rfl, hlt, q.1, q.2, hst', r₄, leAll⟩
    | brk => cases hf; exact hR _ .next _ _ _ r₄ leAll rfl q
    | ret v => obtain ⟨u, rfl, hu⟩ := hf; exact hR _ (.ret v) _ _ _ r₄ leAll ⟨u, rfl, hu⟩ q
  · have : i = n := by omega
    subst this
    refine stop m₂ hp₂ s' ob hI hob hst r _ _ fun h' t' he => ?_
    obtain ⟨r', le'⟩ := r.drop hob hL he t'
    exact wpAny_execs_nil (hR _ .next _ _ _ r' (le.trans le') rfl (fin _ _ hI))
theorem EX_ForL {target iter : Expr} {body : List Stmt} {pos} {Q : AF → Loc → Hp → Prop} (hh : A.handled = none)
    (h : EV (model prog w) A E B env iter m hp fun o hp₁ => ∃ a xs, o = .ref a ∧ Lst B hp₁ env.locals a xs ∧ ∀ it, hp₁ it = none → it ≠ env.locals → ∃ I : Nat → Loc → Hp → Prop,
      (∀ ob, I 0 m (hp₁.set it (.obj ob))) ∧ (∀ i m₂ hp₂ ob, I i m₂ hp₂ → I i m₂ (hp₂.set it (.obj ob))) ∧ (∀ i m₂ hp₂, I i m₂ hp₂ → Lst B hp₂ env.locals a xs) ∧
      (∀ i x m₂ hp₂ ob, xs[i]? = some x → I i m₂ hp₂ → hp₂ it = some (.obj ob) → ASG (model prog w) A (fun _ _ => False) B env target x m₂ hp₂ fun m₃ hp₃ => EXs (model prog w) A (fun _ _ => False) B env body m₃ hp₃ fun fl m₄ hp₄ =>
        match fl with | .next | .cont => I (i + 1) m₄ hp₄ ∧ hp₄ it = some (.obj ob) | .brk => Q .next m₄ hp₄ | .ret v => Q (.ret v) m₄ hp₄) ∧
      (∀ m₂ hp₂, I xs.length m₂ hp₂ → Q .next m₂ (hp₂.del it)))
    (hs : ∀ x, foldedSetIterable iter env x = pure x := by intro _; rfl) :
    EX (model prog w) A E B env (.For target iter body [] pos) m hp Q := fun s r => by
  refine wpAny_For (h.use r fun u s₁ o hp₁ r₁ le₁ hu x => ?_) hs
  obtain ⟨a, xs, rfl, hl, x⟩ := x
  simp only [VR] at hu; subst hu
  obtain ⟨vs, hlst, hvs⟩ := r₁.lst hl
  refine wpAny_pyIter_list hlst ?_
  have n := r₁.newAt { cls := .type "list_iterator", data := .fields #[.ref a, .int 0 0] } (.obj { cls := .type "list_iterator", data := .fields #[.ref a, .int 0 0] }) ⟨Heap.get?_push_size _ rfl, fun i => by obtain ⟨_, _, _, e⟩ := i; cases e⟩
  obtain ⟨I, h0, hset, hlI, turn, fin⟩ := x _ n.2.1 n.2.2.1
  refine For_core (n := xs.length) (el := fun i => xs.getD i .none) (st := fun i ob => ob.cls = .type "list_iterator" ∧ ob.data = .fields #[.ref a, .int i 0]) (I := I) (Q := Q) (s₀ := s) n.2.2.1 (fun i ob x i' => by obtain ⟨_, _, _, e⟩ := i'; rw [x.2] at e; cases e)
    (fun i m₂ hp₂ s' ob hi hI hob hst r' E' W k => ?_) (fun m₂ hp₂ s' ob hI hob hst r' E' W k => ?_) hset (fun i m₂ hp₂ ob hi hI hob => turn i _ m₂ hp₂ ob (by simp [List.getD, List.getElem?_eq_getElem hi]) hI hob) fin
    (fun fl af m' hp' s' r' le' hf q => ⟨af, m', hp', r', le', hf, q⟩) (h0 _) (Hp.set_same ..) ⟨rfl, rfl⟩ n.1 (le₁.trans n.2.2.2) (fun _ _ x => ⟨_, x.1, rfl⟩)
  · obtain ⟨vs', hl', hvs'⟩ := r'.lst (hlI _ _ _ hI)
    obtain ⟨v, hv, hxv⟩ := hvs'.get (i := i) (x := xs.getD i .none) (by simp [List.getD, List.getElem?_eq_getElem hi])
    have hg : s'.heap.get? s₁.heap.objs.size = some ob := (r'.at hob n.2.2.1).1
    refine wpAny_pyNext_list_item (i := i) ⟨ob, hg, hst.1, hst.2⟩ hl' (by simpa using hv) fun h' hit' hs' => ?_
    obtain ⟨ob', hg', hc', hd'⟩ := hit'
    exact k v h' s'.toks ob' hxv hg' ⟨hc', hd'⟩ hs'
  · obtain ⟨vs', hl', hvs'⟩ := r'.lst (hlI _ _ _ hI)
    have hg : s'.heap.get? s₁.heap.objs.size = some ob := (r'.at hob n.2.2.1).1
    refine wpAny_pyNext_list_end hh (i := xs.length) ⟨ob, hg, hst.1, hst.2⟩ hl' ?_ fun h' he => k h' s'.toks he
    have e : vs'.size = xs.length := by rw [← Array.length_toList]; exact hvs'.length
    exact Array.getElem?_eq_none (by omega)
end
end Mine

open PySem PySem.W PyProof.Rows PySem.Calls
namespace Mine
section
variable {prog : Program} {w : World} {A : Around} {E : Value → Shared → Prop} {B : Shared} {env : Env} {m : Loc} {hp : Hp} {K : Frag}
theorem EV_CallT {func e : Expr} {rest : List Expr} {pos} {T : String} {Q : AV → Hp → Prop}
    (h : EV (model prog w) A E B env func m hp fun f hp₁ => f = .ty T ∧ EVS (model prog w) A E B env (e :: rest) m hp₁ fun vs hp₂ => CL (model prog w) A E B env (.type T) m vs hp₂ Q)
    (hc : eval (.Call func (e :: rest) [] pos) env = (do callWith pos (← eval func env) [] (backTo pos (starEach (e :: rest) env)) (backToKw pos (keywordEach [] env))) := by rfl)
    (he : starEach (e :: rest) env = (false, eval e env) :: starEach rest env := by rfl) (hplain : (backTo pos (starEach rest env)).any (·.1) = false := by rfl) :
    EV (model prog w) A E B env (.Call func (e :: rest) [] pos) m hp Q := fun s r => by
  refine Call_ (h.use r fun u s₁ f hp₁ r₁ le₁ hu ⟨hf, q⟩ => ?_) hc
  subst hf; simp only [VR] at hu; subst hu
  refine PyProof.Rows.callWith_type1 (wpAny_mono (q pos s₁ r₁) (fun vs s₂ ⟨avs, hp₂, r₂, le₂, hv, q⟩ => ?_) fun _ _ x => x) he hplain
  exact wpAny_mono (q s₂ vs r₂ hv) (fun v s₃ ⟨av, hp₃, r₃, le₃, hv, q⟩ => ⟨av, hp₃, r₃, (le₁.trans le₂).trans le₃, hv, q⟩) fun _ _ x => x
def RangeOb (ob : Obj) (a b : Int) : Prop := ∃ t u v, ob = { cls := .type "range", dict := none, data := .fields #[.int a t, .int b u, .int 1 v], slots := #[] }
theorem RangeOb.notImm {ob : Obj} {a b : Int} (h : RangeOb ob a b) : ¬ Imm ob := by obtain ⟨t, u, v, rfl⟩ := h; rintro ⟨_, _, _, e⟩; cases e
theorem CL_range1 {n : Int} {Q : AV → Hp → Prop} (h : ∀ r ob, hp r = none → r ≠ env.locals → RangeOb ob 0 n → Q (.ref r) (hp.set r (.obj ob))) : CL (model prog w) A E B env (.type "range") m [.int n] hp Q := fun s vs r hv => by
  obtain ⟨v, rfl, h1⟩ := VRs_one hv
  simp only [VR] at h1; obtain ⟨t, rfl⟩ := h1
  refine call_range_1 ?_
  have ro : RangeOb { cls := .type "range", dict := none, data := .fields #[.int 0 s.toks, .int n t, .int 1 (s.toks + 1)], slots := #[] } 0 n := ⟨_, _, _, rfl⟩
  have x := r.newAt { cls := .type "range", data := .fields #[.int 0 s.toks, .int n t, .int 1 (s.toks + 1)] } (.obj _) ⟨Heap.get?_push_size _ rfl, ro.notImm⟩
  exact ⟨.ref _, _, x.1.toks _, x.2.2.2, VR_ref, h _ _ x.2.1 x.2.2.1 ro⟩
theorem CL_range2 {a b : Int} {Q : AV → Hp → Prop} (h : ∀ r ob, hp r = none → r ≠ env.locals → RangeOb ob a b → Q (.ref r) (hp.set r (.obj ob))) : CL (model prog w) A E B env (.type "range") m [.int a, .int b] hp Q := fun s vs r hv => by
  obtain ⟨v, u, rfl, h1, h2⟩ := VRs_two hv
  simp only [VR] at h1 h2; obtain ⟨t, rfl⟩ := h1; obtain ⟨t', rfl⟩ := h2
  refine call_range_2 ?_
  have ro : RangeOb { cls := .type "range", dict := none, data := .fields #[.int a t, .int b t', .int 1 s.toks], slots := #[] } a b := ⟨_, _, _, rfl⟩
  have x := r.newAt { cls := .type "range", data := .fields #[.int a t, .int b t', .int 1 s.toks] } (.obj _) ⟨Heap.get?_push_size _ rfl, ro.notImm⟩
  exact ⟨.ref _, _, x.1.toks _, x.2.2.2, VR_ref, h _ _ x.2.1 x.2.2.1 ro⟩
theorem EX_ForR {target iter : Expr} {body : List Stmt} {pos} {Q : AF → Loc → Hp → Prop} (hh : A.handled = none)
    (h : EV (model prog w) A E B env iter m hp fun o hp₁ => ∃ rg ob a b, o = .ref rg ∧ hp₁ rg = some (.obj ob) ∧ rg ≠ env.locals ∧ RangeOb ob a b ∧ -(2 ^ 62) ≤ a ∧ a < 2 ^ 62 ∧ -(2 ^ 62) ≤ b ∧ b < 2 ^ 62 ∧ ∀ it, hp₁ it = none → it ≠ env.locals → ∃ I : Nat → Loc → Hp → Prop,
      (∀ ob, I 0 m (hp₁.set it (.obj ob))) ∧ (∀ i m₂ hp₂ ob, I i m₂ hp₂ → I i m₂ (hp₂.set it (.obj ob))) ∧
      (∀ i m₂ hp₂ ob, i < (b - a).toNat → I i m₂ hp₂ → hp₂ it = some (.obj ob) → ASG (model prog w) A (fun _ _ => False) B env target (.int (a + i)) m₂ hp₂ fun m₃ hp₃ => EXs (model prog w) A (fun _ _ => False) B env body m₃ hp₃ fun fl m₄ hp₄ =>
        match fl with | .next | .cont => I (i + 1) m₄ hp₄ ∧ hp₄ it = some (.obj ob) | .brk => Q .next m₄ hp₄ | .ret v => Q (.ret v) m₄ hp₄) ∧
      (∀ m₂ hp₂, I (b - a).toNat m₂ hp₂ → Q .next m₂ (hp₂.del it)))
    (hs : ∀ x, foldedSetIterable iter env x = pure x := by intro _; rfl) :
    EX (model prog w) A E B env (.For target iter body [] pos) m hp Q := fun s r => by
  refine wpAny_For (h.use r fun u s₁ o hp₁ r₁ le₁ hu x => ?_) hs
  obtain ⟨rg, ob, a, b, rfl, hrg, hrL, ⟨t, u', v', rfl⟩, ha, ha', hb, hb', x⟩ := x
  simp only [VR] at hu; subst hu
  have hro := (r₁.at hrg hrL).1
  refine wpAny_pyIter_range hro (small_one ha ha' hb hb') ?_
  have n := r₁.newAt { cls := .type "range_iterator", data := .fields #[rawInt a, rawInt (Builtin.Range.rangeSize a b 1), rawInt 1] } (.obj { cls := .type "range_iterator", data := .fields #[rawInt a, rawInt (Builtin.Range.rangeSize a b 1), rawInt 1] }) ⟨Heap.get?_push_size _ rfl, fun i => by obtain ⟨_, _, _, e⟩ := i; cases e⟩
  obtain ⟨I, h0, hset, turn, fin⟩ := x _ n.2.1 n.2.2.1
  have hsz : Builtin.Range.rangeSize a b 1 = ((b - a).toNat : Int) := by rw [rangeSize_one]; split <;> omega
  refine For_core (n := (b - a).toNat) (el := fun i => .int (a + i)) (st := fun i ob => ob = { cls := .type "range_iterator", dict := none, data := .fields #[rawInt (a + i), rawInt ((b - a).toNat - i), rawInt 1], slots := #[] }) (I := I) (Q := Q) (s₀ := s) n.2.2.1 (fun i ob x i' => by obtain ⟨_, _, _, e⟩ := i'; rw [x] at e; cases e)
    (fun i m₂ hp₂ s' ob hi hI hob hst r' E' W k => ?_) (fun m₂ hp₂ s' ob hI hob hst r' E' W k => ?_) hset turn fin
    (fun fl af m' hp' s' r' le' hf q => ⟨af, m', hp', r', le', hf, q⟩) (h0 _) (Hp.set_same ..) (by rw [hsz]; simp) n.1 (le₁.trans n.2.2.2) (fun _ _ x => ⟨"range_iterator", congrArg Obj.cls x, rfl⟩)
  · subst hst
    have hg : s'.heap.get? s₁.heap.objs.size = some _ := (r'.at hob n.2.2.1).1
    refine wpAny_pyNext_range_item (x := a + i) (left := (b - a).toNat - i) (step := 1) hg (by omega) fun h' hit' hs' => ?_
    exact k _ h' _ _ VR_int hit' (by
      have e1 : a + (i : Int) + 1 = a + ((i + 1 : Nat) : Int) := by push_cast; omega
      have e2 : (((b - a).toNat : Int) - i - 1) = ((b - a).toNat - ((i + 1 : Nat) : Int)) := by push_cast; omega
      rw [e1, e2]) hs'
  · subst hst
    have hg : s'.heap.get? s₁.heap.objs.size = some _ := (r'.at hob n.2.2.1).1
    exact wpAny_pyNext_range_end hh (x := a + (b - a).toNat) (left := (b - a).toNat - (b - a).toNat) (step := 1) hg (by omega) fun h' he => k h' s'.toks he
end
end Mine

open PySem PySem.W PyProof.Rows PySem.Calls
namespace Mine
mutual
inductive RD (B : Shared) (hp : Hp) (L : Addr) : AV → PyData → Prop
  | none : RD B hp L .none .none
  | bool (b) : RD B hp L (.bool b) (.bool b)
  | int (i) : RD B hp L (.int i) (.int i)
  | str (x) : RD B hp L (.str x) (.str x)
  | tup {xs ds} : RDs B hp L xs ds → RD B hp L (.tup xs) (.tuple ds)
  | list {a xs ds} : Lst B hp L a xs → RDs B hp L xs ds → RD B hp L (.ref a) (.list ds)
inductive RDs (B : Shared) (hp : Hp) (L : Addr) : List AV → List PyData → Prop
  | nil : RDs B hp L [] []
  | cons {x xs d ds} : RD B hp L x d → RDs B hp L xs ds → RDs B hp L (x :: xs) (d :: ds)
end
section
variable {prog : Program} {w : World} {A : Around} {E : Value → Shared → Prop} {B : Shared} {env : Env} {m : Loc} {hp : Hp} {K : Frag}
mutual
theorem RD.reads {s : Shared} (r : Rel B (hp.set env.locals (.ns m)) s) : ∀ {x : AV} {d : PyData} {v : Value}, RD B hp env.locals x d → VR s.heap x v → ∃ as, Reads s.heap v d as
  | _, _, _, .none, hv => by simp only [VR] at hv; subst hv; exact ⟨_, .none⟩
  | _, _, _, .bool b, hv => by simp only [VR] at hv; subst hv; exact ⟨_, .bool b⟩
  | _, _, _, .int i, hv => by simp only [VR] at hv; obtain ⟨t, rfl⟩ := hv; exact ⟨_, .int i t⟩
  | _, _, _, .str x, hv => by simp only [VR] at hv; obtain ⟨t, rfl⟩ := hv; exact ⟨_, .str x t⟩
  | _, _, _, .tup h, hv => by
    simp only [VR] at hv
    obtain ⟨a, vs, rfl, ⟨o, ho, hc, n, hd⟩, hvs⟩ := hv
    obtain ⟨as, ra⟩ := RDs.reads r h hvs
    exact ⟨_, .tuple ho hc hd ra⟩
  | _, _, _, .list hl h, hv => by
    simp only [VR] at hv; subst hv
    obtain ⟨vs, ⟨o, ho, hc, n, hd⟩, hvs⟩ := r.lst hl
    obtain ⟨as, ra⟩ := RDs.reads r h hvs
    exact ⟨_, .list ho hc hd ra⟩
theorem RDs.reads {s : Shared} (r : Rel B (hp.set env.locals (.ns m)) s) : ∀ {xs : List AV} {ds : List PyData} {vs : List Value}, RDs B hp env.locals xs ds → VRs s.heap xs vs → ∃ as, ReadsAll s.heap vs ds as
  | _, _, _, .nil, hv => by simp only [VRs] at hv; subst hv; exact ⟨_, .nil⟩
  | _, _, _, .cons h1 h2, hv => by
    simp only [VRs] at hv
    obtain ⟨v, r', rfl, e1, e2⟩ := hv
    obtain ⟨as, ra⟩ := RD.reads r h1 e1
    obtain ⟨bs, rb⟩ := RDs.reads r h2 e2
    exact ⟨_, .cons ra rb⟩
end
theorem OP_eqD {a b : AV} {da db : PyData} {Q : AV → Hp → Prop} (ha : RD B hp env.locals a da) (hb : RD B hp env.locals b db) (sa : SeqAt.shaped da = true) (sb : SeqAt.shaped db = true) (hu : A.units + 64 < cLine) (h : Q (.bool (PyData.eqv da db)) hp) :
    OP2 (model prog w) A E B env (compareOp .Eq) m a b hp Q := fun s u v r hu' hv => by
  obtain ⟨as, ra⟩ := ha.reads r hu'
  obtain ⟨bs, rb⟩ := hb.reads r hv
  exact SeqAt.compareEq_shaped ra rb sa sb hu ⟨_, hp, r, .refl _, VR_bool, h⟩
theorem OP_neD {a b : AV} {da db : PyData} {Q : AV → Hp → Prop} (ha : RD B hp env.locals a da) (hb : RD B hp env.locals b db) (sa : SeqAt.shaped da = true) (sb : SeqAt.shaped db = true) (hu : A.units + 64 < cLine) (h : Q (.bool (!PyData.eqv da db)) hp) :
    OP2 (model prog w) A E B env (compareOp .NotEq) m a b hp Q := fun s u v r hu' hv => by
  obtain ⟨as, ra⟩ := ha.reads r hu'
  obtain ⟨bs, rb⟩ := hb.reads r hv
  exact SeqAt.compareNe_shaped ra rb sa sb hu ⟨_, hp, r, .refl _, VR_bool, h⟩
theorem EV_IfExp {t b o : Expr} {pos} {Q : AV → Hp → Prop} (h : TST (model prog w) A E B env t m hp fun c hp' => if c then EV (model prog w) A E B env b m hp' Q else EV (model prog w) A E B env o m hp' Q) : EV (model prog w) A E B env (.IfExp t b o pos) m hp Q := fun s r => by
  refine wpAny_IfExp (wpAny_mono (h s r) (fun c s' ⟨hp', r', le, q⟩ => ?_) fun _ _ x => x)
  cases c
  · exact wpAny_mono (q s' r') (fun v s'' ⟨av, hp'', r'', le', hv, q⟩ => ⟨av, hp'', r'', le.trans le', hv, q⟩) fun _ _ x => x
  · exact wpAny_mono (q s' r') (fun v s'' ⟨av, hp'', r'', le', hv, q⟩ => ⟨av, hp'', r'', le.trans le', hv, q⟩) fun _ _ x => x
theorem OP_addL {a b : Addr} {xs ys : List AV} {Q : AV → Hp → Prop} (ha : hp a = some (.list xs)) (hL : a ≠ env.locals) (hb : hp b = some (.list ys)) (hLb : b ≠ env.locals) (hsz : xs.length + ys.length ≤ sizeLine)
    (h : ∀ c, hp c = none → c ≠ env.locals → Q (.ref c) (hp.set c (.list (xs ++ ys)))) : OP2 (model prog w) A E B env (binaryOp .Add) m (.ref a) (.ref b) hp Q := fun s u v r hu hv => by
  simp only [VR] at hu hv; subst hu; subst hv
  obtain ⟨vs, n, hl, hvs⟩ := r.at ha hL
  obtain ⟨us, n', hl', hus⟩ := r.at hb hLb
  have e1 : vs.size = xs.length := by rw [← Array.length_toList]; exact hvs.length
  have e2 : us.size = ys.length := by rw [← Array.length_toList]; exact hus.length
  refine PySem.P.add_list hl hl' ?_ (by omega)
  have le : ImmLe s.heap (s.heap.push { cls := .type "list", data := .seq (vs ++ us) }) := ImmLe.keep fun b o'' e => Heap.get?_push_of_some _ e
  have x := r.newAt { cls := .type "list", data := .seq (vs ++ us) } (.list (xs ++ ys)) ⟨_, 0, IsL.new _ _, by rw [Array.toList_append]; exact (hvs.mono le).append (hus.mono le)⟩
  exact ⟨.ref _, _, x.1, x.2.2.2, VR_ref, h _ x.2.1 x.2.2.1⟩
theorem EV_pop {o : Expr} {apos pos} {pl : Sem Bool} {Q : AV → Hp → Prop}
    (h : EV (model prog w) A E B env o m hp fun l hp₁ => ∃ a xs v, l = .ref a ∧ hp₁ a = some (.list (xs ++ [v])) ∧ a ≠ env.locals ∧ xs.length < sizeLine ∧ Q v (hp₁.set a (.list xs)))
    (hc : eval (.Call (.Attribute o (PySem.Str.ofString "pop") apos) [] [] pos) env = (do
      let ov ← eval o env
      standAt apos.atName
      let (f, first) ← holding [ov] (getMethod ov (PySem.Str.ofString "pop") pl)
      callWith pos f first (backTo pos (starEach [] env)) []) := by rfl) :
    EV (model prog w) A E B env (.Call (.Attribute o (PySem.Str.ofString "pop") apos) [] [] pos) m hp Q := fun s r => by
  refine MethodCall_ (pl := pl) (h.use r fun u s₁ l hp₁ r₁ le₁ hu x => ?_) hc
  obtain ⟨a, xs, v, rfl, ha, hL, hsz, q⟩ := x
  simp only [VR] at hu; subst hu
  refine listMeth F.slot_list_pop F.type_list_pop r₁ ha hL ?_
  obtain ⟨us, n, hl, hus⟩ := r₁.at ha hL
  have e2 : us.size = xs.length + 1 := by rw [← Array.length_toList, hus.length]; simp
  obtain ⟨y, hy, hvy⟩ := hus.get (i := xs.length) (x := v) (by simp)
  refine PySem.P.pop_list hl (by rw [e2]; simpa using hy) ?_ (by omega)
  have hs : Heap.SameBut a s₁.heap (s₁.heap.update a (Obj.mapSeq fun xs => xs.eraseIdxIfInBounds (us.size - 1))) := Heap.SameBut.update ..
  have hl' := hl.update fun xs => xs.eraseIdxIfInBounds (us.size - 1)
  have e3 : (us.eraseIdxIfInBounds (us.size - 1)).toList = us.toList.take xs.length := by
    rw [Array.eraseIdxIfInBounds, dif_pos (by omega), Array.toList_eraseIdx, List.eraseIdx_eq_take_drop_succ, e2, Nat.add_sub_cancel, List.drop_of_length_le (by rw [Array.length_toList]; omega), List.append_nil]
  have t := r₁.turn (a := a) (by rw [Hp.set_ne _ _ hL]; exact ha) hs (.list xs) (fun le => ⟨_, _, hl', by
    have := (hus.mono le).take xs.length
    rw [List.take_left' rfl] at this
    rw [e3]
    exact this⟩) s₁.toks
  rw [Hp.set_comm _ _ _ (Ne.symm hL)] at t
  exact ⟨v, _, t.1, le₁.trans t.2, hvy.mono t.2, q⟩
end
end Mine

open PySem PySem.W PyProof.Rows PySem.Calls
namespace Mine
theorem ofString_inj {a b : String} (h : PySem.Str.ofString a = PySem.Str.ofString b) : a = b := by
  rw [PySem.Str.ofString_eq_byList] at h
  unfold PySem.Str.ofStringByList at h
  have h1 : (a.toList.map Char.toNat).toArray = (b.toList.map Char.toNat).toArray := PySem.Str.mk.inj h
  have h2 : a.toList.map Char.toNat = b.toList.map Char.toNat := by simpa using h1
  apply String.toList_injective
  have inj : ∀ {x y : List Char}, x.map Char.toNat = y.map Char.toNat → x = y := by
    intro x
    induction x with
    | nil => intro y h; cases y with | nil => rfl | cons _ _ => simp at h
    | cons c x ih =>
      intro y h
      cases y with
      | nil => simp at h
      | cons d y =>
        simp only [List.map_cons, List.cons.injEq] at h
        rw [ih h.2]
        congr 1
        exact Char.toNat_inj.mp h.1
  exact inj h2
theorem upd_get (m : Loc) (a b : String) (v : AV) : upd m (PySem.Str.ofString a) v (PySem.Str.ofString b) = if b = a then some v else m (PySem.Str.ofString b) := by
  unfold upd
  by_cases h : b = a
  · simp [h]
  · have : PySem.Str.ofString b ≠ PySem.Str.ofString a := fun e => h (ofString_inj e)
    simp [h, this]
theorem locOf_nil (y : PySem.Str) : locOf [] y = none := rfl
theorem locOf_get (a b : String) (v : AV) (r : List (PySem.Str × AV)) : locOf ((PySem.Str.ofString a, v) :: r) (PySem.Str.ofString b) = if b = a then some v else locOf r (PySem.Str.ofString b) := by
  show (if PySem.Str.ofString b = PySem.Str.ofString a then some v else locOf r (PySem.Str.ofString b)) = _
  by_cases h : b = a
  · simp [h]
  · have : PySem.Str.ofString b ≠ PySem.Str.ofString a := fun e => h (ofString_inj e)
    simp [h, this]
def Hp.Le (hp hp' : Hp) : Prop := ∀ a o, hp a = some o → hp' a = some o
theorem Hp.Le.refl (hp : Hp) : Hp.Le hp hp := fun _ _ e => e
theorem Hp.Le.trans {a b c : Hp} (x : Hp.Le a b) (y : Hp.Le b c) : Hp.Le a c := fun p o e => y p o (x p o e)
theorem Hp.Le.set {hp hp' : Hp} (x : Hp.Le hp hp') {a : Addr} (h : hp a = none) (o : AO) : Hp.Le hp (hp'.set a o) := fun b ob e => by
  have : b ≠ a := fun e' => by rw [e', h] at e; cases e
  rw [Hp.set_ne _ _ this]; exact x b ob e
theorem Hp.Le.del {hp hp' : Hp} (x : Hp.Le hp hp') {a : Addr} (h : hp a = none) : Hp.Le hp (hp'.del a) := fun b ob e => by
  have : b ≠ a := fun e' => by rw [e', h] at e; cases e
  simp only [Hp.del, this, if_false]; exact x b ob e
theorem Hp.Le.none {hp hp' : Hp} (x : Hp.Le hp hp') {a : Addr} (h : hp' a = none) : hp a = none := by
  cases e : hp a with
  | none => rfl
  | some o => rw [x a o e] at h; cases h
theorem Hp.del_ne (hp : Hp) {a b : Addr} (h : b ≠ a) : (hp.del a) b = hp b := by simp [Hp.del, h]
theorem Hp.ne_of {hp : Hp} {a b : Addr} {o : AO} (h : hp a = some o) (h' : hp b = none) : a ≠ b := fun e => by rw [e, h'] at h; cases h
theorem Lst.le {B : Shared} {hp hp' : Hp} {L a : Addr} {xs : List AV} (x : Lst B hp L a xs) (le : Hp.Le hp hp') : Lst B hp' L a xs := by
  rcases x with ⟨h, hL⟩ | h
  · exact .inl ⟨le _ _ h, hL⟩
  · exact .inr h
theorem Lst.call {B : Shared} {hp : Hp} {L L' a : Addr} {xs : List AV} {m : Loc} (x : Lst B hp L a xs) (hL' : hp L' = none) : Lst B (hp.set L (.ns m)) L' a xs := by
  rcases x with ⟨h, hL⟩ | h
  · exact .inl ⟨by rw [Hp.set_ne _ _ hL]; exact h, fun e => by rw [e, hL'] at h; cases h⟩
  · exact .inr h
section
variable {prog : Program} {w : World} {A : Around} {E : Value → Shared → Prop} {B : Shared} {env : Env} {m : Loc} {hp : Hp} {K : Frag}
theorem EV_neg {x : Expr} {pos} {Q : AV → Hp → Prop} (h : EV (model prog w) A E B env x m hp fun v hp' => ∃ i, v = .int i ∧ Q (.int (-i)) hp') : EV (model prog w) A E B env (.UnaryOp .USub x pos) m hp Q := fun s r => by
  refine wpAny_UnaryOp (h.use r fun u s₁ v hp₁ r₁ le₁ hu ⟨i, e, q⟩ => ?_)
  subst e
  simp only [VR] at hu; obtain ⟨t, rfl⟩ := hu
  exact PySem.P.neg_int ⟨_, hp₁, r₁.toks _, le₁, VR_int, q⟩
end
end Mine

open PySem PySem.W PyProof.Rows PySem.Calls
namespace Mine
section
variable {M : Model} {A : Around} {E : Value → Shared → Prop} {B : Shared} {env : Env} {m : Loc} {hp : Hp} {K : Frag}
theorem EV.mono {e : Expr} {Q Q' : AV → Hp → Prop} (h : EV M A E B env e m hp Q) (k : ∀ v hp', Q v hp' → Q' v hp') : EV M A E B env e m hp Q' := fun s r =>
  wpAny_mono (h s r) (fun _ _ ⟨av, hp', r', le, hv, q⟩ => ⟨av, hp', r', le, hv, k _ _ q⟩) fun _ _ x => x
theorem TST.mono {e : Expr} {Q Q' : Bool → Hp → Prop} (h : TST M A E B env e m hp Q) (k : ∀ v hp', Q v hp' → Q' v hp') : TST M A E B env e m hp Q' := fun s r =>
  wpAny_mono (h s r) (fun _ _ ⟨hp', r', le, q⟩ => ⟨hp', r', le, k _ _ q⟩) fun _ _ x => x
theorem EX.mono {st : Stmt} {Q Q' : AF → Loc → Hp → Prop} (h : EX M A E B env st m hp Q) (k : ∀ f m' hp', Q f m' hp' → Q' f m' hp') : EX M A E B env st m hp Q' := fun s r =>
  wpAny_mono (h s r) (fun _ _ ⟨af, m', hp', r', le, hv, q⟩ => ⟨af, m', hp', r', le, hv, k _ _ _ q⟩) fun _ _ x => x
theorem EXs.mono {st : List Stmt} {Q Q' : AF → Loc → Hp → Prop} (h : EXs M A E B env st m hp Q) (k : ∀ f m' hp', Q f m' hp' → Q' f m' hp') : EXs M A E B env st m hp Q' := fun s r =>
  wpAny_mono (h s r) (fun _ _ ⟨af, m', hp', r', le, hv, q⟩ => ⟨af, m', hp', r', le, hv, k _ _ _ q⟩) fun _ _ x => x
theorem EXs_seq {st : Stmt} {rest : List Stmt} {Q : AF → Loc → Hp → Prop} (Mid : Loc → Hp → Prop) (h1 : EX M A E B env st m hp fun f m' hp' => f = .next ∧ Mid m' hp') (h2 : ∀ m' hp', Mid m' hp' → EXs M A E B env rest m' hp' Q) :
    EXs M A E B env (st :: rest) m hp Q := EXs_cons (h1.mono fun f m' hp' ⟨e, x⟩ => by subst e; exact h2 m' hp' x)
end
end Mine
namespace Mine
theorem sz {n : Nat} (h : Nat.ble n 1000 = true) : n ≤ sizeLine := by
  have := sizeLine_eq; have := Nat.le_of_ble_eq_true h; omega
theorem sz' {n : Nat} (h : n ≤ 1000) : n ≤ sizeLine := by
  have := sizeLine_eq; omega
end Mine
open PySem PySem.W PyProof.Rows PySem.Calls
namespace Mine
section
variable {prog : Program} {w : World} {A : Around} {E : Value → Shared → Prop} {B : Shared} {env : Env} {m : Loc} {hp : Hp} {K : Frag}
structure Ins (hp : Hp) (L x dx C : Addr) (ma : Loc) : Prop where
  ob : hp x = some (.obj (instObj C dx))
  at_ : hp dx = some (.atr ma)
  xL : x ≠ L
  dL : dx ≠ L
theorem Ins.le {hp' : Hp} {L x dx C : Addr} {ma : Loc} (I : Ins hp L x dx C ma) (le : Hp.Le hp hp') : Ins hp' L x dx C ma := ⟨le _ _ I.ob, le _ _ I.at_, I.xL, I.dL⟩
theorem Ins.xd {L x dx C : Addr} {ma : Loc} (I : Ins hp L x dx C ma) : x ≠ dx := fun e => by have := I.ob; rw [e, I.at_] at this; cases this
theorem lookIn_ns {o : Obj} {es : Array DictEntry} {ep : Nat} {mv : PySem.Str → Option Value} (hd : o.data = .dict es ep) (hk : StrKeys es) (hm : ∀ name, nsFind es name = mv name) (name : PySem.Str) : lookIn name o = some (mv name) := by
  unfold lookIn
  rw [hd, ← hm name]
  unfold nsFind findBy
  rw [← Array.find?_toList]
  dsimp only
  cases h : es.toList.find? (fun e => e.key.isStr name) with
  | some en => rfl
  | none =>
    have : es.toList.any (·.refKey) = false := by
      rw [List.any_eq_false]
      intro en hen
      obtain ⟨n, t, hn⟩ := hk en (by simpa using hen)
      unfold DictEntry.refKey
      rw [hn]; simp
    simp [this]
theorem Rel.ins {s : Shared} (r : Rel B (hp.set env.locals (.ns m)) s) {x dx C : Addr} {ma : Loc} (I : Ins hp env.locals x dx C ma) :
    ∃ od mv, InstAt s.heap x (instObj C dx) C (some od) ∧ s.heap.Ns1 dx mv ∧ LocR s.heap ma mv ∧ Within mv attrNames ∧ ∀ name, lookIn name od = some (mv name) := by
  obtain ⟨h1, _⟩ := r.at I.ob I.xL
  obtain ⟨mv, hn, hm, hw⟩ := r.at I.at_ I.dL
  have hn' := hn
  obtain ⟨o, es, ep, ho, hd, hk, _, hf⟩ := hn'
  exact ⟨o, mv, ⟨h1, rfl, rfl, ho⟩, hn, hm, hw, lookIn_ns hd hk hf⟩
structure Cls (K : Frag) (C : Addr) : Prop where
  ga : findIn K (.ref C) "__getattribute__" = some (some (.builtin "object.__getattribute__"))
  gk : findIn K (.ref C) "__getattr__" = some none
  hd : (clsIn K C).any (·.hasDict) = true
  sa : findIn K (.ref C) "__setattr__" = some (some (.builtin "object.__setattr__"))
  po : plainOver K C = true
theorem VR_handed {h : Heap} {a : AV} {v : Value} (hv : VR h a v) (hb : ∀ n, a ≠ .bi n) : handedIn v = true := by
  cases a with
  | bi n => exact absurd rfl (hb n)
  | none => simp only [VR] at hv; subst hv; rfl
  | bool _ => simp only [VR] at hv; subst hv; rfl
  | int _ => simp only [VR] at hv; obtain ⟨_, rfl⟩ := hv; rfl
  | str _ => simp only [VR] at hv; obtain ⟨_, rfl⟩ := hv; rfl
  | flt _ => simp only [VR] at hv; obtain ⟨_, rfl⟩ := hv; rfl
  | ref _ => simp only [VR] at hv; subst hv; rfl
  | ty _ => simp only [VR] at hv; subst hv; rfl
  | tup _ => simp only [VR] at hv; obtain ⟨_, _, rfl, _⟩ := hv; rfl
  | mat _ => simp only [VR] at hv; obtain ⟨_, _, rfl, _⟩ := hv; rfl
theorem EV_attr {o : Expr} {name : PySem.Str} {pos} {C : Addr} {Q : AV → Hp → Prop} (G : Gnd K B) (P : Cls K C) (hno : findIn K (.ref C) name = some none)
    (h : EV (model prog w) A E B env o m hp fun v hp₁ => ∃ x dx ma u, v = .ref x ∧ Ins hp₁ env.locals x dx C ma ∧ ma name = some u ∧ (∀ n, u ≠ .bi n) ∧ Q u hp₁)
    (he : eval (.Attribute o name pos) env = (do
      let ov ← eval o env
      standAt pos.atName
      let r ← holding [ov] (getAttr ov name true)
      letTemporaryGo o ov r
      pure r) := by with_unfolding_all rfl) (ht : ∀ ov r, letTemporaryGo o ov r = pure () := by intro _ _; rfl) :
    EV (model prog w) A E B env (.Attribute o name pos) m hp Q := fun s r => by
  rw [he]
  refine wpAny_bind (h.use r fun v s₁ av hp₁ r₁ le₁ hv x => wpAny_bind (wpAny_standAt (wpAny_bind (wpAny_holding ?_))))
  obtain ⟨x, dx, ma, u, rfl, I, hu, hb, q⟩ := x
  simp only [VR] at hv; subst hv
  obtain ⟨od, mv, IA, hn, hm, hw, hl⟩ := r₁.ins I
  obtain ⟨uv, huv, hvr⟩ := hm.1 name u hu
  obtain ⟨cd, hc, hd⟩ := any_some P.hd
  have hf : findObj K C (some od) name = some (.value uv) := by
    unfold findObj
    rw [hc, Option.bind_some, hno]
    simp only [Option.bind_some, W.ownOf, hd, if_true, hl, huv]
  refine get_value (G.X.keeps r₁.keep) IA P.ga hf (VR_handed hvr hb) ?_
  refine wpAny_bind ?_
  rw [ht]
  exact wpAny_pure (wpAny_pure ⟨u, hp₁, r₁.toks _, le₁, hvr, q⟩)
theorem EV_meth {o e : Expr} {name : PySem.Str} {rest : List Expr} {apos pos} {pl : Sem Bool} {C f : Addr} {Q : AV → Hp → Prop} (G : Gnd K B) (P : Cls K C) (hf : findIn K (.ref C) name = some (some (.ref f))) (ht : typeIn K (.ref f) = some (.type "function")) (hk : keepIn K (.ref f) = true)
    (h : EV (model prog w) A E B env o m hp fun v hp₁ => ∃ x dx ma, v = .ref x ∧ Ins hp₁ env.locals x dx C ma ∧ ma name = none ∧ EVS (model prog w) A E B env (e :: rest) m hp₁ fun vs hp₂ => CL (model prog w) A E B env (.ref f) m (.ref x :: vs) hp₂ Q)
    (hc : eval (.Call (.Attribute o name apos) (e :: rest) [] pos) env = (do
      let ov ← eval o env
      standAt apos.atName
      let (f, first) ← holding [ov] (getMethod ov name pl)
      callWith pos f first (backTo pos (starEach (e :: rest) env)) []) := by rfl)
    (he : starEach (e :: rest) env = (false, eval e env) :: starEach rest env := by rfl) (hplain : (backTo pos (starEach rest env)).any (·.1) = false := by rfl) :
    EV (model prog w) A E B env (.Call (.Attribute o name apos) (e :: rest) [] pos) m hp Q := fun s r => by
  refine MethodCall_ (pl := pl) (h.use r fun u s₁ l hp₁ r₁ le₁ hu x => ?_) hc
  obtain ⟨x, dx, ma, rfl, I, hno, q⟩ := x
  simp only [VR] at hu; subst hu
  obtain ⟨od, mv, IA, hn, hm, hw, hl⟩ := r₁.ins I
  refine method_fn (G.X.keeps r₁.keep) IA P.ga P.gk hf ht (by unfold shadowIn; simp [hl, hm.2 name hno]) ?_
  refine callWith_K (K := K) G.X hk (wpAny_mono (q pos s₁ r₁) (fun vs s₂ ⟨avs, hp₂, r₂, le₂, hv, q⟩ => ?_) fun _ _ x => x) he hplain
  refine ⟨G.X.keeps r₂.keep, ?_⟩
  refine wpAny_mono (q s₂ (.ref x :: vs) r₂ (by simp only [VRs]; exact ⟨_, _, rfl, VR_ref, hv⟩)) (fun v s₃ ⟨av, hp₃, r₃, le₃, hv, q⟩ => ⟨av, hp₃, r₃, (le₁.trans le₂).trans le₃, hv, q⟩) fun _ _ x => x
theorem EV_meth0 {o : Expr} {name : PySem.Str} {apos pos} {pl : Sem Bool} {C f : Addr} {Q : AV → Hp → Prop} (G : Gnd K B) (P : Cls K C) (hf : findIn K (.ref C) name = some (some (.ref f))) (ht : typeIn K (.ref f) = some (.type "function")) (hk : keepIn K (.ref f) = true)
    (h : EV (model prog w) A E B env o m hp fun v hp₁ => ∃ x dx ma, v = .ref x ∧ Ins hp₁ env.locals x dx C ma ∧ ma name = none ∧ CL (model prog w) A E B env (.ref f) m [.ref x] hp₁ Q)
    (hc : eval (.Call (.Attribute o name apos) [] [] pos) env = (do
      let ov ← eval o env
      standAt apos.atName
      let (f, first) ← holding [ov] (getMethod ov name pl)
      callWith pos f first (backTo pos (starEach [] env)) []) := by rfl) :
    EV (model prog w) A E B env (.Call (.Attribute o name apos) [] [] pos) m hp Q := fun s r => by
  refine MethodCall_ (pl := pl) (h.use r fun u s₁ l hp₁ r₁ le₁ hu x => ?_) hc
  obtain ⟨x, dx, ma, rfl, I, hno, q⟩ := x
  simp only [VR] at hu; subst hu
  obtain ⟨od, mv, IA, hn, hm, hw, hl⟩ := r₁.ins I
  refine method_fn (G.X.keeps r₁.keep) IA P.ga P.gk hf ht (by unfold shadowIn; simp [hl, hm.2 name hno]) ?_
  refine callWith_K0 (K := K) (G.X.keeps r₁.keep) hk ?_
  refine wpAny_mono (q s₁ [.ref x] r₁ (VRs.one VR_ref)) (fun v s₃ ⟨av, hp₃, r₃, le₃, hv, q⟩ => ⟨av, hp₃, r₃, le₁.trans le₃, hv, q⟩) fun _ _ x => x
theorem ASG_attr {o : Expr} {name : PySem.Str} {pos} {C : Addr} {u : AV} {Q : Loc → Hp → Prop} (G : Gnd K B) (P : Cls K C) (ht : takerIn K C name = some none) (ha : name ∈ attrNames)
    (h : EV (model prog w) A E B env o m hp fun v hp₁ => ∃ x dx ma, v = .ref x ∧ Ins hp₁ env.locals x dx C ma ∧ Q m (hp₁.set dx (.atr (upd ma name u)))) :
    ASG (model prog w) A E B env (.Attribute o name pos) u m hp Q := fun s v r hv => by
  rw [assign_Attribute]
  refine wpAny_bind (wpAny_holding (h.use r fun ov s₁ av hp₁ r₁ le₁ hov x => wpAny_bind (wpAny_standAt (wpAny_bind (wpAny_holding ?_)))))
  obtain ⟨x, dx, ma, rfl, I, q⟩ := x
  simp only [VR] at hov; subst hov
  obtain ⟨od, mv, IA, hn, hm, hw, hl⟩ := r₁.ins I
  have hv₁ := hv.mono le₁
  have X := G.X.keeps r₁.keep
  refine set_plain X IA P.sa (osa_open (s := { s₁ with toks := s₁.toks + 1 }) X IA P.po ht fun b => ?_)
  obtain ⟨cd, hc, hd⟩ := any_some P.hd
  refine wpAny_bind (wpAny_pure (wpAny_bind (wpAny_bind (wpAny_loadPart IA.at_ (wpAny_bind (looks_clsIn X hc _ _ _ _ (fun _ _ e => e) ?_))))))
  rw [hd]
  refine wpAny_pure (a := some dx) (wpAny_bind (wpAny_pure (wpAny_bind (wpAny_nsSet1 (s := { s₁ with toks := s₁.toks + 1 }) hn fun h' hn' hs => ?_))))
  have hw' : Within (fun x => if x = name then some v else mv x) attrNames := fun y hy => by
    by_cases e : y = name
    · rw [e]; exact ha
    · exact hw y (by simpa [e] using hy)
  obtain ⟨oD, esD, epD, hoD, hdD, hcD⟩ := hn'.count hw'
  refine wpAny_bind (wpAny_lookBehind hoD (by rw [hdD]; exact pastItsLine_dict (Nat.le_trans hcD (by decide))) ?_)
  refine wpAny_pure ?_
  have t := r₁.turn (a := dx) (by rw [Hp.set_ne _ _ I.dL]; exact I.at_) hs (.atr (upd ma name u)) (fun le => ⟨_, hn', LocR.upd (hm.mono le) (hv₁.mono le), hw'⟩) (s₁.toks + 1 + 1)
  rw [Hp.set_comm _ _ _ (Ne.symm I.dL)] at t
  exact wpAny_release ⟨m, _, t.1, le₁.trans t.2, q⟩
end
end Mine

open PySem PySem.W PyProof.Rows PySem.Calls
namespace Mine
section
variable {prog : Program} {w : World} {A : Around} {E : Value → Shared → Prop} {B : Shared} {env : Env} {m : Loc} {hp : Hp} {K : Frag}
theorem CL_make {C fI : Addr} {avs : List AV} {Q : AV → Hp → Prop} (G : Gnd K B) (hm : makesIn K C = true) (hi : findIn K (.ref C) "__init__" = some (some (.ref fI))) (hf : typeIn K (.ref fI) = some (.type "function"))
    (h : ∀ x dx vs, hp x = none → hp dx = none → x ≠ dx → x ≠ env.locals → dx ≠ env.locals →
      CD (model prog w) (A.under (.builtin "type.__call__" ⟨.ref C :: vs, []⟩)) E B env (.ref fI) m (.ref x :: avs) ((hp.set dx (.atr fun _ => none)).set x (.obj (instObj C dx))) fun v hp' => v = .none ∧ Q (.ref x) hp') :
    CL (model prog w) A E B env (.ref C) m avs hp Q := fun s vs r hv => by
  refine wpAny_call ?_
  have n1 := r.newAt emptyDict (.atr fun _ => none) ⟨fun _ => none, Heap.Ns1.of_empty (Heap.Ns.new s.heap (.type "dict")), ⟨fun x v e => by simp at e, fun x _ => rfl⟩, fun y hy => absurd rfl hy⟩
  have n2 := Rel.newAt n1.1 (instObj C s.heap.objs.size) (.obj (instObj C s.heap.objs.size)) ⟨Heap.get?_push_size _ rfl, fun i => by obtain ⟨_, xs, n, e⟩ := i; cases e⟩
  have hsz : (s.heap.push emptyDict).objs.size = s.heap.objs.size + 1 := Heap.size_push ..
  simp only [hsz] at n2
  have hx0 : hp (s.heap.objs.size + 1) = none := by
    have := n2.2.1
    rw [Hp.set_ne _ _ (Nat.succ_ne_self _)] at this
    exact this
  have hh := h (s.heap.objs.size + 1) s.heap.objs.size vs hx0 n1.2.1 (Nat.succ_ne_self _) n2.2.2.1 n1.2.2.1
  obtain ⟨heap, g, d, t, os⟩ := s
  refine make_core (makes_of (G.X.keeps r.keep) hm) (looks_findIn (G.X.keeps r.keep) hi) (fun self => bind_fn (G.X.keeps r.keep) self hf) (.inl rfl) ?_
  refine codeAny_mono (hh _ (.ref (heap.objs.size + 1) :: vs) n2.1 (by simp only [VRs]; exact ⟨_, _, rfl, VR_ref, hv.mono (n1.2.2.2.trans n2.2.2.2)⟩)) fun r s' z => ?_
  rcases r with e | (v | _ | _ | _) <;> first | exact z | exact z.elim | skip
  obtain ⟨av, hp', r', le', hv', rfl, q⟩ := z
  simp only [VR] at hv'; subst hv'
  exact ⟨rfl, .ref (heap.objs.size + 1), hp', r', (n1.2.2.2.trans n2.2.2.2).trans le', VR_ref, q⟩
theorem EV_CallK {func e : Expr} {rest : List Expr} {pos} {f : Addr} {Q : AV → Hp → Prop} (G : Gnd K B) (hk : keepIn K (.ref f) = true)
    (h : EV (model prog w) A E B env func m hp fun v hp₁ => v = .ref f ∧ EVS (model prog w) A E B env (e :: rest) m hp₁ fun vs hp₂ => CL (model prog w) A E B env (.ref f) m vs hp₂ Q)
    (hc : eval (.Call func (e :: rest) [] pos) env = (do callWith pos (← eval func env) [] (backTo pos (starEach (e :: rest) env)) (backToKw pos (keywordEach [] env))) := by rfl)
    (he : starEach (e :: rest) env = (false, eval e env) :: starEach rest env := by rfl) (hplain : (backTo pos (starEach rest env)).any (·.1) = false := by rfl) :
    EV (model prog w) A E B env (.Call func (e :: rest) [] pos) m hp Q := fun s r => by
  refine Call_ (h.use r fun u s₁ v hp₁ r₁ le₁ hu ⟨hf, q⟩ => ?_) hc
  subst hf; simp only [VR] at hu; subst hu
  refine callWith_K (K := K) G.X hk (wpAny_mono (q pos s₁ r₁) (fun vs s₂ ⟨avs, hp₂, r₂, le₂, hv, q⟩ => ⟨G.X.keeps r₂.keep, ?_⟩) fun _ _ x => x) he hplain
  exact wpAny_mono (q s₂ vs r₂ hv) (fun v s₃ ⟨av, hp₃, r₃, le₃, hv, q⟩ => ⟨av, hp₃, r₃, (le₁.trans le₂).trans le₃, hv, q⟩) fun _ _ x => x
theorem TRU_none {Q : Bool → Hp → Prop} (h : Q false hp) : TRU (model prog w) A E B env m .none hp Q := fun s u r hu => by
  simp only [VR] at hu; subst hu
  exact PyProof.Rows.truthy_none ⟨hp, r, .refl _, h⟩
theorem TRU_lst {a : Addr} {xs : List AV} {Q : Bool → Hp → Prop} (ha : Lst B hp env.locals a xs) (hsz : xs.length ≤ sizeLine) (h : Q (!xs.isEmpty) hp) : TRU (model prog w) A E B env m (.ref a) hp Q := fun s u r hu => by
  simp only [VR] at hu; subst hu
  obtain ⟨vs, hl, hv⟩ := r.lst ha
  have hlen := hv.length
  refine wpAny_truthy_list hl (by have : vs.size ≤ sizeLine := by rw [← Array.length_toList]; omega
                                  have := sizeLine_eq; omega) ⟨hp, r.toks _, .refl _, ?_⟩
  have : vs.isEmpty = xs.isEmpty := by
    rw [← Array.isEmpty_toList]
    cases hx : xs with
    | nil => rw [hx] at hlen; simp at hlen; rw [List.isEmpty_iff.mpr]; rfl; exact List.length_eq_zero_iff.mp (by simpa using hlen)
    | cons y ys => rw [hx] at hlen; cases hv' : vs.toList with
      | nil => rw [hv'] at hlen; simp at hlen
      | cons z zs => rfl
  rw [this]; exact h
theorem Rel.grown {s : Shared} (r : Rel B (hp.set env.locals (.ns m)) s) {h' : Heap} (k : ∀ b o, s.heap.get? b = some o → h'.get? b = some o) (t : Nat) : Rel B (hp.set env.locals (.ns m)) { s with heap := h', toks := t } ∧ ImmLe s.heap h' := by
  refine ⟨⟨fun b o e => k b o (r.keep b o e), fun a o e => ⟨(r.objs a o e).1, (r.objs a o e).2.here (ImmLe.keep k) fun o' e' => k _ _ e'⟩, r.os, r.bare, ?_⟩, ImmLe.keep k⟩
  obtain ⟨h1, h2⟩ := r.objs env.locals _ (Hp.set_same ..)
  obtain ⟨ob, hob⟩ := h2.ex
  exact Nat.le_trans h1 (Nat.le_of_lt (Heap.lt_size (k _ _ hob)))
theorem EV_dict0 {pos} {Q : AV → Hp → Prop} (h : ∀ a, hp a = none → a ≠ env.locals → Q (.ref a) hp) : EV (model prog w) A E B env (.Dict [] [] pos) m hp Q := fun s r => by
  have n := r.newAt { cls := .type "dict", data := .dict #[] } (.obj { cls := .type "dict", data := .dict #[] }) ⟨Heap.get?_push_size _ rfl, fun i => by obtain ⟨_, xs, n, e⟩ := i; cases e⟩
  refine wpAny_Dict_empty ⟨.ref _, hp, n.1.sub fun a o e => ?_, n.2.2.2, VR_ref, h _ n.2.1 n.2.2.1⟩
  by_cases ha : a = env.locals
  · subst ha; rw [Hp.set_same] at e ⊢; exact e
  · rw [Hp.set_ne _ _ ha] at e ⊢
    rw [Hp.set_ne _ _ (fun h => by rw [h, n.2.1] at e; cases e)]; exact e
theorem EV_set0 {func : Expr} {pos} {Q : AV → Hp → Prop}
    (h : EV (model prog w) A E B env func m hp fun f hp₁ => f = .ty "set" ∧ ∀ a, hp₁ a = none → a ≠ env.locals → Q (.ref a) hp₁)
    (hc : eval (.Call func [] [] pos) env = (do callWith pos (← eval func env) [] (backTo pos (starEach [] env)) (backToKw pos (keywordEach [] env))) := by rfl) : EV (model prog w) A E B env (.Call func [] [] pos) m hp Q := fun s r => by
  refine Call_ (h.use r fun u s₁ f hp₁ r₁ le₁ hu ⟨hf, q⟩ => ?_) hc
  subst hf; simp only [VR] at hu; subst hu
  refine PyProof.Rows.callWith_type0 (call_set_0 fun led => ?_)
  have n := r₁.newAt { cls := .type "set", dict := none, data := .set #[] 0 (.fresh 0 0 led) } (.obj { cls := .type "set", dict := none, data := .set #[] 0 (.fresh 0 0 led) }) ⟨Heap.get?_push_size _ rfl, fun i => by obtain ⟨_, xs, n, e⟩ := i; cases e⟩
  refine ⟨.ref _, hp₁, n.1.sub fun a o e => ?_, le₁.trans n.2.2.2, VR_ref, q _ n.2.1 n.2.2.1⟩
  by_cases ha : a = env.locals
  · subst ha; rw [Hp.set_same] at e ⊢; exact e
  · rw [Hp.set_ne _ _ ha] at e ⊢
    rw [Hp.set_ne _ _ (fun h => by rw [h, n.2.1] at e; cases e)]; exact e
theorem EX_ForEnumNil {target func xe : Expr} {body : List Stmt} {cpos pos} {Q : AF → Loc → Hp → Prop} (hh : A.handled = none)
    (h : EV (model prog w) A E B env func m hp fun f hp₁ => f = .ty "enumerate" ∧ EVS (model prog w) A E B env [xe] m hp₁ fun vs hp₂ => ∃ a, vs = [.ref a] ∧ Lst B hp₂ env.locals a [] ∧ Q .next m hp₂)
    (hc : eval (.Call func [xe] [] cpos) env = (do callWith cpos (← eval func env) [] (backTo cpos (starEach [xe] env)) (backToKw cpos (keywordEach [] env))) := by rfl)
    (he : starEach [xe] env = [(false, eval xe env)] := by rfl)
    (hs : ∀ x, foldedSetIterable (.Call func [xe] [] cpos) env x = pure x := by intro _; rfl) :
    EX (model prog w) A E B env (.For target (.Call func [xe] [] cpos) body [] pos) m hp Q := fun s r => by
  refine wpAny_For (Call_ (h.use r fun u s₁ f hp₁ r₁ le₁ hu ⟨hf, q⟩ => ?_) hc) hs
  subst hf; simp only [VR] at hu; subst hu
  refine PyProof.Rows.callWith_type1 (wpAny_mono (q cpos s₁ r₁) (fun vs s₂ ⟨avs, hp₂, r₂, le₂, hv, q⟩ => ?_) fun _ _ x => x) he rfl
  obtain ⟨a, rfl, hl, q⟩ := q
  obtain ⟨v, rfl, h1⟩ := VRs_one hv
  simp only [VR] at h1; subst h1
  obtain ⟨us, hlst, hus⟩ := r₂.lst hl
  refine call_enumerate_list hlst fun h' hen hit hz hk => ?_
  refine wpAny_pyIter_enum (s := { s₂ with heap := h' }) hen ?_
  refine codeAny_forLoop_any (fun _ s' => s' = { s₂ with heap := h' }) (fun n s' e => ?_) 0 rfl
  subst e
  have hemp : us[0]? = none := by
    have : us.size = 0 := by rw [← Array.length_toList, hus.length]; rfl
    simp [this]
  refine wpAny_pyNext_enum_end hh hen hit (let ⟨o, ho, x⟩ := hlst; ⟨o, hk _ _ ho, x⟩) hemp fun h'' hx => ?_
  have hk' : ∀ b o, s₂.heap.get? b = some o → h''.get? b = some o := fun b o e => hx b o (Nat.ne_of_lt (Heap.lt_size e)) (hk b o e)
  have g := r₂.grown hk' s₂.toks
  exact wpAny_execs_nil ⟨.next, m, hp₂, g.1, (le₁.trans le₂).trans g.2, rfl, q⟩
end
end Mine

open PySem PySem.W PyProof.Rows PySem.Calls
namespace Mine
def RET (L : Addr) (env : Env) (m : Loc) (Q : AV → Hp → Prop) : AF → Loc → Hp → Prop := fun fl _ hp' => ∃ hp₂ : Hp, Hp.Le (hp₂.set env.locals (.ns m)) hp' ∧ hp₂ L = none ∧ Q (retOf fl) hp₂
theorem Ins.call {hp : Hp} {L L' x dx C : Addr} {ma m : Loc} (I : Ins hp L x dx C ma) (h : hp L' = none) : Ins (hp.set L (.ns m)) L' x dx C ma :=
  ⟨by rw [Hp.set_ne _ _ I.xL]; exact I.ob, by rw [Hp.set_ne _ _ I.dL]; exact I.at_, Hp.ne_of I.ob h, Hp.ne_of I.at_ h⟩
theorem Ins.put {hp : Hp} {L x dx C : Addr} {ma ma' : Loc} (I : Ins hp L x dx C ma) : Ins (hp.set dx (.atr ma')) L x dx C ma' :=
  ⟨by rw [Hp.set_ne _ _ I.xd]; exact I.ob, Hp.set_same .., I.xL, I.dL⟩
theorem Lst.put {B : Shared} {hp : Hp} {L a b : Addr} {xs : List AV} {o : AO} (x : Lst B hp L a xs) (h : ∀ ys, hp b ≠ some (.list ys)) : Lst B (hp.set b o) L a xs := by
  rcases x with ⟨e, hL⟩ | e
  · exact .inl ⟨by rw [Hp.set_ne _ _ (fun e' => by subst e'; exact h _ e)]; exact e, hL⟩
  · exact .inr e
section
variable {prog : Program} {w : World} {A : Around} {E : Value → Shared → Prop} {B : Shared} {env : Env} {m : Loc} {hp : Hp} {K : Frag}
theorem CD_fn {f : Addr} {fd : FuncData} {body : List Stmt} {avs : List AV} {bs : List (PySem.Str × AV)} {Q : AV → Hp → Prop} (G : Gnd K B) (ho : K.lookup f = some ⟨.type "function", none, .func fd, #[]⟩) (hcd : codeIn K fd.code fd.qualname = true)
    (hbody : fd.body = .stmts body) (hroom : A.depth < recursionLimit)
    (hbind : ∀ s vs, VRs s.heap avs vs → (∀ b o, B.heap.get? b = some o → s.heap.get? b = some o) → ∃ us : List (PySem.Str × Value), BindsTo s fd ⟨vs, []⟩ us ∧ us.reverse.map (·.1) = bs.map (·.1) ∧ VRs s.heap (bs.map (·.2)) (us.reverse.map (·.2)))
    (hloc : bs.all (fun x => fd.scope.names.lookup x.1 == some .local) = true) (hcell : ∀ x ∈ fd.scope.names, x.2 ≠ .cell)
    (h : ∀ L, hp L = none → L ≠ env.locals → EXs (model prog w) (A.deeper (callEnv fd L f)) (fun _ _ => False) B (callEnv fd L f) body (locOf bs) (hp.set env.locals (.ns m)) (RET L env m Q))
    (hco : fd.scope.isCoroutine = false := by rfl) (hgen : fd.scope.isGenerator = false := by rfl) (hk : fd.scope.kind = .function := by rfl) :
    CD (model prog w) A E B env (.ref f) m avs hp Q :=
  CD_def G ho rfl hcd hbody hroom hbind hloc hcell (fun L hL hLe => (h L hL hLe).mono fun fl m' hp' ⟨hp₂, le, hn, q⟩ => ⟨hp₂, fun a o e => ⟨le a o e, fun e' => by
    subst e'; rw [Hp.set_ne _ _ hLe, hn] at e; cases e⟩, q⟩) hco hgen hk
theorem EX_AssignA {o value : Expr} {name : PySem.Str} {pos' pos} {Q : AF → Loc → Hp → Prop}
    (h : EV (model prog w) A E B env value m hp fun v hp₁ => ASG (model prog w) A E B env (.Attribute o name pos') v m hp₁ fun m₂ hp₂ => Q .next m₂ hp₂)
    (hs : swapsWith value (some (.Attribute o name pos')) pos.line env = pure false := by rfl) : EX (model prog w) A E B env (.Assign [.Attribute o name pos'] value pos) m hp Q := fun s r => by
  rw [plainObj_exec_Assign_Attribute o name pos' value pos hs]
  refine wpAny_bind (wpAny_standAt (wpAny_bind (h.use r fun u s₁ v hp₁ r₁ le₁ hu q => wpAny_bind ?_)))
  exact wpAny_mono (q s₁ u r₁ hu) (fun _ s₂ ⟨m₂, hp₂, r₂, le₂, q⟩ => wpAny_pure ⟨.next, m₂, hp₂, r₂, le₁.trans le₂, rfl, q⟩) fun _ _ x => x
theorem EX_doc {x : PySem.Str} {k p pos} {Q : AF → Loc → Hp → Prop} (h : Q .next m hp) (hi : interactive env = false := by rfl) (hs : swapsWith (.Constant (.str x) k p) none pos.line env = pure false := by rfl) :
    EX (model prog w) A E B env (.Expr (.Constant (.str x) k p) pos) m hp Q := EX_Expr (EV_strc ⟨by simp, by simp, by simp, h⟩) hi hs
theorem ret_ok {L : Addr} {Q : AV → Hp → Prop} {fl : AF} {m' : Loc} {hp₂ hp' : Hp} (le : Hp.Le (hp₂.set env.locals (.ns m)) hp') (hn : hp₂ L = none) (q : Q (retOf fl) hp₂) : RET L env m Q fl m' hp' := ⟨hp₂, le, hn, q⟩
theorem ret_same {L : Addr} {Q : AV → Hp → Prop} {fl : AF} {m' : Loc} (hL : hp L = none) (q : Q (retOf fl) hp) : RET L env m Q fl m' (hp.set env.locals (.ns m)) := ⟨hp, .refl _, hL, q⟩
theorem ret_put {L dx : Addr} {o : AO} {Q : AV → Hp → Prop} {fl : AF} {m' : Loc} (hL : hp L = none) (hd : dx ≠ env.locals) (hdL : dx ≠ L) (q : Q (retOf fl) (hp.set dx o)) : RET L env m Q fl m' ((hp.set env.locals (.ns m)).set dx o) :=
  ⟨hp.set dx o, by rw [Hp.set_comm _ _ _ hd]; exact .refl _, by rw [Hp.set_ne _ _ (Ne.symm hdL)]; exact hL, q⟩
end
end Mine

open PySem PySem.W PyProof.Rows PySem.Calls
namespace Mine
section
variable {prog : Program} {w : World} {A : Around} {E : Value → Shared → Prop} {B : Shared} {env : Env} {m : Loc} {hp : Hp} {K : Frag}
theorem ASG.mono {M : Model} {t : Expr} {x : AV} {Q Q' : Loc → Hp → Prop} (h : ASG M A E B env t x m hp Q) (k : ∀ m' hp', Q m' hp' → Q' m' hp') : ASG M A E B env t x m hp Q' := fun s v r hv =>
  wpAny_mono (h s v r hv) (fun _ _ ⟨m', hp', r', le, q⟩ => ⟨m', hp', r', le, k _ _ q⟩) fun _ _ x => x
theorem TRU_str {x : PySem.Str} {Q : Bool → Hp → Prop} (hx : x.length < 1000) (h : Q (x.length != 0) hp) : TRU (model prog w) A E B env m (.str x) hp Q := fun s u r hu => by
  simp only [VR] at hu; obtain ⟨t, rfl⟩ := hu
  refine PySem.P.truthy_str (by omega) ⟨hp, r.toks _, .refl _, ?_⟩
  have : ((x.length : Int) != 0) = (x.length != 0) := by
    generalize x.length = n
    cases n with
    | zero => rfl
    | succ n => rfl
  rw [this]; exact h
end
end Mine

open PySem PySem.W PyProof.Rows PySem.Calls
namespace Mine
def GR (B : Shared) (h0 : Heap) (F : Hp → Prop) : GenEnd := fun _ _ r s => r = .ok (.ret .none) ∧ ∃ hp, Rel B hp s ∧ ImmLe h0 s.heap ∧ F hp
def GY (B : Shared) (L S : Addr) (h0 : Heap) (hk : Hp) : Protocol := fun _ _ v s kap => ∃ (av : AV) (hp : Hp) (m : Loc) (acc : List AV), Rel B (hp.set L (.ns m)) s ∧ ImmLe h0 s.heap ∧ VR s.heap av v ∧ hp S = some (.list acc) ∧ S ≠ L ∧ acc.length < 1000 ∧ Hp.Le hk hp ∧
  ∀ s', Rel B ((hp.set S (.list (acc ++ [av]))).set L (.ns m)) s' → ImmLe h0 s'.heap → kap (.send .none) s'
theorem GY.mono {B : Shared} {L S : Addr} {h0 : Heap} {hk : Hp} {n n' : Nat} {s₀ s₀' : Shared} {v : Value} {s : Shared} {kap kap' : Resume → Shared → Prop} (h : GY B L S h0 hk n s₀ v s kap) (k : ∀ r s', kap r s' → kap' r s') : GY B L S h0 hk n' s₀' v s kap' := by
  obtain ⟨av, hp, m, acc, h1, h2, h3, h4, h5, h6, h6', h7⟩ := h
  exact ⟨av, hp, m, acc, h1, h2, h3, h4, h5, h6, h6', fun s' r le => k _ _ (h7 s' r le)⟩
theorem seg_more {M : Model} {A : Around} {B : Shared} {L S : Addr} {h0 : Heap} {hk : Hp} {F : Hp → Prop} : ∀ {n : Nat} {s₀ : Shared} {c : Code} {t : Sem Fin} {fs : List Frame} {s : Shared}, Seg M A (GR B h0 F) (GY B L S h0 hk) n s₀ c t fs s → Seg M A (GR B h0 F) (GY B L S h0 hk) (n + 1) s₀ c t fs s
  | 0, s₀, c, t, fs, s, h => by
    intro Γ p hc hΓ
    obtain ⟨e, s', hr, he⟩ := h Γ p hc hΓ
    refine ⟨e, s', hr, ?_⟩
    cases e with
    | ret r => exact he
    | susp v g l k c p fs => exact ⟨he.1, he.2.mono fun _ _ x => x.elim⟩
  | n + 1, s₀, c, t, fs, s, h => by
    intro Γ p hc hΓ
    obtain ⟨e, s', hr, he⟩ := h Γ p hc hΓ
    refine ⟨e, s', hr, ?_⟩
    cases e with
    | ret r => exact he
    | susp v g l k c p fs => exact ⟨he.1, he.2.mono fun _ _ x => seg_more x⟩
theorem seg_le {M : Model} {A : Around} {B : Shared} {L S : Addr} {h0 : Heap} {hk : Hp} {F : Hp → Prop} {n n' : Nat} {s₀ : Shared} {c : Code} {t : Sem Fin} {fs : List Frame} {s : Shared} (h : Seg M A (GR B h0 F) (GY B L S h0 hk) n s₀ c t fs s) (le : n ≤ n') : Seg M A (GR B h0 F) (GY B L S h0 hk) n' s₀ c t fs s := by
  induction le with
  | refl => exact h
  | step _ ih => exact seg_more ih
section
variable {prog : Program} {w : World} {A : Around} {B : Shared} {env : Env} {m : Loc} {hp : Hp} {h0 : Heap} {hk : Hp} {S : Addr} {F : Hp → Prop} {n : Nat} {c : Code} {fs : List Frame} {K : Flow → Sem Fin} {H : Value → Sem Fin}
def GS (prog : Program) (w : World) (A : Around) (B : Shared) (env : Env) (h0 : Heap) (hk : Hp) (S : Addr) (F : Hp → Prop) (n : Nat) (c : Code) (fs : List Frame) (K : Flow → Sem Fin) (H : Value → Sem Fin) (sts : List Stmt) (m : Loc) (hp : Hp) : Prop :=
  ∀ s s₀, Rel B (hp.set env.locals (.ns m)) s → ImmLe h0 s.heap → Seg (model prog w) A (GR B h0 F) (GY B env.locals S h0 hk) n s₀ c ((execs sts env).wrap K H id id) fs s
def GF (prog : Program) (w : World) (A : Around) (B : Shared) (env : Env) (h0 : Heap) (hk : Hp) (S : Addr) (F : Hp → Prop) (n : Nat) (c : Code) (fs : List Frame) (K : Flow → Sem Fin) (f : AF) (m : Loc) (hp : Hp) : Prop :=
  ∀ s s₀ fl, Rel B (hp.set env.locals (.ns m)) s → ImmLe h0 s.heap → FR s.heap f fl → Seg (model prog w) A (GR B h0 F) (GY B env.locals S h0 hk) n s₀ c (K fl) fs s
def KK (env : Env) (rest : List Stmt) (K : Flow → Sem Fin) (H : Value → Sem Fin) : Flow → Sem Fin := fun f => match f with | .next => (execs rest env).wrap K H id id | f => K f
theorem GS_nil (h : GF prog w A B env h0 hk S F n c fs K .next m hp) : GS prog w A B env h0 hk S F n c fs K H [] m hp := fun s s₀ r le => seg_execs_nil (h s s₀ .next r le rfl)
theorem GF_rest {rest : List Stmt} (h : GS prog w A B env h0 hk S F n c fs K H rest m hp) : GF prog w A B env h0 hk S F n c fs (KK env rest K H) .next m hp := fun s s₀ fl r le hf => by cases hf; exact h s s₀ r le
theorem GF_other {rest : List Stmt} {f : AF} (hf : f ≠ .next) (h : GF prog w A B env h0 hk S F n c fs K f m hp) : GF prog w A B env h0 hk S F n c fs (KK env rest K H) f m hp := fun s s₀ fl r le hfr => by
  have := h s s₀ fl r le hfr
  cases f with
  | next => exact absurd rfl hf
  | brk => cases hfr; exact this
  | cont => cases hfr; exact this
  | ret v => obtain ⟨u, rfl, _⟩ := hfr; exact this
theorem GS_cons {st : Stmt} {rest : List Stmt} (h : EX (model prog w) (A.over c fs) (fun _ _ => False) B env st m hp fun f m' hp' => match f with | .next => GS prog w A B env h0 hk S F n c fs K H rest m' hp' | f => GF prog w A B env h0 hk S F n c fs K f m' hp') :
    GS prog w A B env h0 hk S F n c fs K H (st :: rest) m hp := fun s s₀ r le => by
  refine seg_execs_cons (seg_wrap (wpAny_mono (h s r) (fun fl s' x => ?_) fun _ _ x => x.elim))
  obtain ⟨af, m', hp', r', le', hf, q⟩ := x
  cases af with
  | next => cases hf; exact q s' s₀ r' (le.trans le')
  | brk => cases hf; exact q s' s₀ _ r' (le.trans le') rfl
  | cont => cases hf; exact q s' s₀ _ r' (le.trans le') rfl
  | ret v => obtain ⟨u, rfl, hu⟩ := hf; exact q s' s₀ _ r' (le.trans le') ⟨u, rfl, hu⟩
theorem GS_yield {e : Expr} {rest : List Stmt} {ypos pos : Pos} (hfs : splitAtGen fs = none) (hfg : fs.any Frame.guarded = false)
    (h : EV (model prog w) (A.over c fs) (fun _ _ => False) B env e m hp fun av hp₁ => ∃ acc, hp₁ S = some (.list acc) ∧ S ≠ env.locals ∧ acc.length < 1000 ∧ Hp.Le hk hp₁ ∧ GS prog w A B env h0 hk S F n c fs K H rest m (hp₁.set S (.list (acc ++ [av]))))
    (hco : env.scope.isCoroutine = false := by rfl) (hi : interactive env = false := by rfl) :
    GS prog w A B env h0 hk S F (n + 1) c fs K H (.Expr (.Yield (some e) ypos) pos :: rest) m hp := fun s s₀ r le => by
  refine seg_execs_cons (seg_Expr_Yield hfs rfl hfg (wpAny_mono (h s r) (fun v s' x => ?_) fun _ _ x => x.elim) hco hi)
  obtain ⟨av, hp₁, r₁, le₁, hv, acc, hS, hSL, hlen, hke, q⟩ := x
  intro kap hkap
  exact ⟨av, hp₁, m, acc, r₁, le.trans le₁, hv, hS, hSL, hlen, hke, fun s'' r'' le'' => hkap .none s'' (q s'' s'' r'' le'')⟩
theorem GS_if {test : Expr} {body orelse rest : List Stmt} {pos : Pos} (h : TST (model prog w) (A.over c fs) (fun _ _ => False) B env test m hp fun b hp' => if b then GS prog w A B env h0 hk S F n c fs (KK env rest K H) H body m hp' else GS prog w A B env h0 hk S F n c fs (KK env rest K H) H orelse m hp') :
    GS prog w A B env h0 hk S F n c fs K H (.If test body orelse pos :: rest) m hp := fun s s₀ r le => by
  refine seg_execs_cons ?_
  rw [exec_If, Sem.bind_eq_wrap', Sem.wrap_wrap]
  refine seg_wrap (wpAny_standAt ?_)
  rw [Sem.bind_eq_wrap', Sem.wrap_wrap]
  refine seg_wrap (wpAny_mono (h s r) (fun b s' ⟨hp', r', le', q⟩ => ?_) fun _ _ x => x.elim)
  cases b with
  | true => exact q s' s₀ r' (le.trans le')
  | false => exact q s' s₀ r' (le.trans le')
end
end Mine

open PySem PySem.W PyProof.Rows PySem.Calls
namespace Mine
section
variable {prog : Program} {w : World} {A : Around} {B : Shared} {env : Env} {m : Loc} {hp : Hp} {h0 : Heap} {hk : Hp} {S : Addr} {F : Hp → Prop} {n : Nat} {c : Code} {fs : List Frame} {K : Flow → Sem Fin} {H : Value → Sem Fin}
theorem GS_forL {target iter : Expr} {body rest : List Stmt} {pos : Pos} (hh : ∀ it kk p, (A.over (.forLoop target (.ref it) body [] env) (.ret kk none false [] c p [] :: fs)).handled = none)
    (h : EV (model prog w) (A.over c fs) (fun _ _ => False) B env iter m hp fun o hp₁ => ∃ a xs, o = .ref a ∧ Lst B hp₁ env.locals a xs ∧ ∀ it, hp₁ it = none → it ≠ env.locals → ∃ (I : Nat → Loc → Hp → Prop) (N : Nat → Nat), N 0 ≤ n ∧
      (∀ ob, I 0 m (hp₁.set it (.obj ob))) ∧ (∀ i m₂ hp₂ ob, I i m₂ hp₂ → I i m₂ (hp₂.set it (.obj ob))) ∧ (∀ i m₂ hp₂, I i m₂ hp₂ → Lst B hp₂ env.locals a xs) ∧
      (∀ kk p K' H' i x m₂ hp₂ ob, xs[i]? = some x → I i m₂ hp₂ → hp₂ it = some (.obj ob) →
        (∀ n' m₄ hp₄, N (i + 1) ≤ n' → I (i + 1) m₄ hp₄ → hp₄ it = some (.obj ob) → GF prog w A B env h0 hk S F n' (.forLoop target (.ref it) body [] env) (.ret kk none false [] c p [] :: fs) K' .next m₄ hp₄) →
        ASG (model prog w) (A.over (.forLoop target (.ref it) body [] env) (.ret kk none false [] c p [] :: fs)) (fun _ _ => False) B env target x m₂ hp₂ fun m₃ hp₃ =>
          GS prog w A B env h0 hk S F (N i) (.forLoop target (.ref it) body [] env) (.ret kk none false [] c p [] :: fs) K' H' body m₃ hp₃) ∧
      (∀ m₂ hp₂, I xs.length m₂ hp₂ → GS prog w A B env h0 hk S F (N xs.length) c fs K H rest m₂ (hp₂.del it)))
    (hs : ∀ x, foldedSetIterable iter env x = pure x := by intro _; rfl) :
    GS prog w A B env h0 hk S F n c fs K H (.For target iter body [] pos :: rest) m hp := fun s s₀ r le => by
  refine seg_execs_cons ?_
  rw [exec_For, Sem.bind_eq_wrap', Sem.wrap_wrap]
  refine seg_wrap (wpAny_standAt ?_)
  rw [Sem.bind_eq_wrap', Sem.wrap_wrap]
  refine seg_wrap (wpAny_mono (h s r) (fun u s₁ x => ?_) fun _ _ x => x.elim)
  obtain ⟨o, hp₁, r₁, le₁, hu, a, xs, rfl, hl, x⟩ := x
  simp only [VR] at hu; subst hu
  rw [Sem.bind_eq_wrap', Sem.wrap_wrap, hs]
  refine seg_wrap (wpAny_pure ?_)
  rw [Sem.bind_eq_wrap', Sem.wrap_wrap]
  refine seg_wrap (wpAny_standAt ?_)
  rw [Sem.bind_eq_wrap', Sem.wrap_wrap]
  obtain ⟨vs, hlst, hvs⟩ := r₁.lst hl
  refine seg_wrap (wpAny_holding (wpAny_pyIter_list hlst ?_))
  have nw := r₁.newAt { cls := .type "list_iterator", data := .fields #[.ref a, .int 0 0] } (.obj { cls := .type "list_iterator", data := .fields #[.ref a, .int 0 0] }) ⟨Heap.get?_push_size _ rfl, fun i => by obtain ⟨_, _, _, e⟩ := i; cases e⟩
  obtain ⟨I, N, hN, h1, hset, hlI, turn, fin⟩ := x _ nw.2.1 nw.2.2.1
  generalize hit : s₁.heap.objs.size = it at *
  refine seg_call fun p => ?_
  refine seg_le ?_ hN
  generalize hkk : (fun r => Sem.wrap _ _ _ _ _) = kk
  have loop : ∀ (k i : Nat) (m₂ : Loc) (hp₂ : Hp) (ob : Obj) (s s₀ : Shared), xs.length - i = k → i ≤ xs.length → I i m₂ hp₂ → hp₂ it = some (.obj ob) → (ob.cls = .type "list_iterator" ∧ ob.data = .fields #[.ref a, .int i 0]) → Rel B (hp₂.set env.locals (.ns m₂)) s → ImmLe h0 s.heap →
      Seg (model prog w) A (GR B h0 F) (GY B env.locals S h0 hk) (N i) s₀ (.forLoop target (.ref it) body [] env) ((model prog w).den (.forLoop target (.ref it) body [] env)) (.ret kk none false [] c p [] :: fs) s := by
    intro k
    induction k with
    | zero =>
      intro i m₂ hp₂ ob s s₀ hkk' hi hI hob hst r le
      have e : i = xs.length := by omega
      subst e
      show Seg _ A _ _ _ s₀ _ ((forTurn target (.ref it) body [] env).onRaise (fun x => do noteFrame x env; theTreesLotGoes x)) _ s
      unfold forTurn
      rw [Sem.onRaise_eq_wrap, Sem.bind_eq_wrap', Sem.wrap_wrap]
      refine seg_wrap (wpAny_standAt ?_)
      rw [Sem.bind_eq_wrap', Sem.wrap_wrap]
      obtain ⟨vs', hl', hvs'⟩ := r.lst (hlI _ _ _ hI)
      have hg : s.heap.get? it = some ob := (r.at hob nw.2.2.1).1
      refine seg_wrap (wpAny_onRaise (wpAny_pyNext_list_end (hh _ _ _) (i := xs.length) ⟨ob, hg, hst.1, hst.2⟩ hl' ?_ fun h' he => ?_))
      · have e : vs'.size = xs.length := by rw [← Array.length_toList]; exact hvs'.length
        exact Array.getElem?_eq_none (by omega)
      · obtain ⟨r', le'⟩ := r.drop hob nw.2.2.1 he s.toks
        have hf := fin m₂ hp₂ hI _ s₀ r' (le.trans le')
        refine seg_again (c' := .block [] env) rfl ?_
        show Seg _ A _ _ _ s₀ _ (.pure (.done .next)) _ _
        refine seg_leaf (.ok .next) ?_
        rw [← hkk]
        exact hf
    | succ k ih =>
      intro i m₂ hp₂ ob s s₀ hkk' hi hI hob hst r le
      have hlt : i < xs.length := by omega
      show Seg _ A _ _ _ s₀ _ ((forTurn target (.ref it) body [] env).onRaise (fun x => do noteFrame x env; theTreesLotGoes x)) _ s
      unfold forTurn
      rw [Sem.onRaise_eq_wrap, Sem.bind_eq_wrap', Sem.wrap_wrap]
      refine seg_wrap (wpAny_standAt ?_)
      rw [Sem.bind_eq_wrap', Sem.wrap_wrap]
      obtain ⟨vs', hl', hvs'⟩ := r.lst (hlI _ _ _ hI)
      have hx : xs[i]? = some (xs.getD i .none) := by simp [List.getD, List.getElem?_eq_getElem hlt]
      obtain ⟨v, hv, hxv⟩ := hvs'.get (i := i) (x := xs.getD i .none) hx
      have hg : s.heap.get? it = some ob := (r.at hob nw.2.2.1).1
      refine seg_wrap (wpAny_onRaise (wpAny_pyNext_list_item (i := i) ⟨ob, hg, hst.1, hst.2⟩ hl' (by simpa using hv) fun h' hit' hs' => ?_))
      obtain ⟨ob', hg', hc', hd'⟩ := hit'
      have t := r.turn (a := it) (o := .obj ob) (by rw [Hp.set_ne _ _ nw.2.2.1]; exact hob) hs' (.obj ob') (fun _ => ⟨hg', fun i' => by obtain ⟨_, _, _, e⟩ := i'; rw [hd'] at e; cases e⟩) s.toks
      rw [Hp.set_comm _ _ _ (Ne.symm nw.2.2.1)] at t
      dsimp only
      rw [Sem.bind_eq_wrap', Sem.wrap_wrap]
      refine seg_wrap (letOwned_plain hg' hc' rfl ?_)
      rw [Sem.bind_eq_wrap', Sem.wrap_wrap]
      rw [Sem.bind_eq_wrap']
      generalize hKb : (fun (_ : Unit) => Sem.wrap _ _ _ _ (Sem.wrap _ _ _ _ (execs body env))) = kb
      subst hKb
      have tr := turn kk p (fun f => (match f with | .next | .cont => .pure (.again (.forLoop target (.ref it) body [] env)) | .brk => .pure (.done .next) | .ret v => .pure (.done (.ret v)))) (fun e => (do noteFrame e env; theTreesLotGoes e : Sem Unit).wrap (fun _ => .raise e) .raise id id) i _ m₂ (hp₂.set it (.obj ob')) ob' hx (hset _ _ _ _ hI) (Hp.set_same ..) ?_
      · refine seg_wrap (wpAny_mono (tr _ v t.1 (hxv.mono t.2)) (fun _ s₃ ⟨m₃, hp₃, r₃, le₃, q⟩ => ?_) fun _ _ x => x.elim)
        have := q s₃ s₀ r₃ ((le.trans t.2).trans le₃)
        rw [Sem.wrap_wrap]
        refine Eq.mp (congrArg (fun t => Seg _ A _ _ _ s₀ _ t _ s₃) ?_) this
        refine Sem.wrap_congr (execs body env) _ _ (fun f => ?_) (fun e => ?_)
        · cases f <;> rfl
        · show _ = (do noteFrame e env; theTreesLotGoes e : Sem Unit).bind fun _ => .raise e
          rw [Sem.bind_eq_wrap]
      · intro n' m₄ hp₄ hn' hI' hob' s₄ s₀' fl r₄ le₄ hf
        cases hf
        refine seg_again rfl (seg_le ?_ hn')
        exact ih (i + 1) m₄ hp₄ ob' s₄ s₀' (by omega) hlt hI' hob' ⟨hc', by rw [hd']⟩ r₄ le₄
  refine loop xs.length 0 m _ _ _ s₀ rfl (Nat.zero_le _) (h1 _) (Hp.set_same ..) ⟨rfl, rfl⟩ nw.1 ((le.trans le₁).trans nw.2.2.2)
end
end Mine

open PySem PySem.W PyProof.Rows PySem.Calls
namespace Mine
section
variable {prog : Program} {w : World} {A : Around} {E : Value → Shared → Prop} {B : Shared} {env : Env} {m : Loc} {hp : Hp} {h0 : Heap} {hk : Hp} {L S : Addr} {F : Hp → Prop} {n : Nat}
theorem Rel.gen {s : Shared} (r : Rel B hp s) (g : Nat) {gs : GenState} (hb : gs.bare = true) : Rel B hp (s.setGen g gs) := by
  refine ⟨r.keep, r.objs, r.os, ⟨fun y hy => ?_, ?_⟩, r.size⟩
  · obtain ⟨i, hi, rfl⟩ := Array.mem_iff_getElem.mp hy
    by_cases e : i = g
    · subst e
      have : (s.setGen i gs).gens[i] = gs := by simp [Shared.setGen]
      rw [this]; exact hb
    · have hi' : i < s.gens.size := by simpa [Shared.setGen] using hi
      have : (s.setGen g gs).gens[i] = s.gens[i] := by simp only [Shared.setGen]; exact Array.getElem_setIfInBounds_ne hi' (fun h => e h.symm)
      rw [this]; exact r.bare.1 _ (Array.getElem_mem hi')
  · have : (s.setGen g gs).gens.size = s.gens.size := by simp [Shared.setGen]
    rw [this]; exact r.bare.2
theorem next_gen {I : Addr} {g : Nat} {gs : GenState} {s : Shared} {Q : Option Value → Shared → Prop} (hh : A.handled = none) (hl : s.heap.NoLimit) (hroom : A.depth < recursionLimit) (hg : s.heap.IsGen I g) (hgs : s.gens[g]? = some gs)
    (hgo : gs.Goes (model prog w) A.in1 (GR B h0 F) (GY B L S h0 hk) n (.send .none) (s.setGen g .running))
    (hY : ∀ v s₁ gs', gs'.bare = true → GY B L S h0 hk (n - 1) (s.setGen g .running) v s₁ (fun r' s'' => match n with | 0 => False | m + 1 => gs'.Goes (model prog w) A.in1 (GR B h0 F) (GY B L S h0 hk) m r' s'') → Q (some v) (s₁.setGen g gs'))
    (hP : ∀ s₁ hp, Rel B hp s₁ → ImmLe h0 s₁.heap → F hp → ∀ h', s₁.heap.objs.size ≤ h'.objs.size → (∀ b o, s₁.heap.get? b = some o → h'.get? b = some o) → Q none { s₁.setGen g .finished with heap := h' }) : wpAny (model prog w) A (pyNext (.ref I)) Q E s := by
  unfold pyNext
  refine wpAny_bind (wpAny_attempt (wpAny_callSpecial?_slot (name := Str.ofString "__next__") hg.typeIs slot_gen_next (wpAny_call_entry slot_gen_next hg.typeIs entry_gen_next ?_ (args_gen_next _))))
  show wpAny _ A.in1 (Builtin.Generator.genWake (.ref I) (.send .none)) _ _ s
  unfold Builtin.Generator.genWake
  refine wpAny_bind (wpAny_holding (wpAny_genNumber hg (wpAny_bind (wpAny_genState hgs ?_))))
  cases gs with
  | running => exact hgo.elim
  | finished => exact hgo.elim
  | _ =>
    refine wpAny_bind (wpAny_roomToWake hl hroom ?_)
    show wpAny _ A.in1 (.resume g (.send .none) [] _) _ _ s
    refine wpAny_resumeQ hgs hgo (fun x s₁ hx => ?_) (fun v s₁ gs' hb hv => wpAny_pure ⟨v, rfl, wpAny_pure (hY v s₁ gs' hb hv)⟩)
    obtain ⟨rfl, hp, r, le, q⟩ := hx
    show wpAny _ A.in1 (newExc (.type "StopIteration") [] >>= _) _ _ _
    refine wpAny_bind ?_
    simp only [newExc, newTuple]
    refine wpAny_bind (wpAny_newObj_type ?_ (by size_fits))
    refine wpAny_bind (m := firstArgMember _ _) (wpAny_of_eq (a := Value.none) (by first | rfl | (simp only [firstArgMember]; rfl)) ?_)
    refine wpAny_newObj_type ?_ (by size_fits)
    simp only [raiseNew]
    refine wpAny_bind (wpAny_bind (wpAny_handled ?_))
    rw [show A.in1.handled = none from hh]
    refine wpAny_throw (wpAny_bind (wpAny_isInstance (T := "StopIteration") (b := true) ⟨_, Heap.get?_push_size _ rfl, rfl⟩ isSubtype_stop ?_))
    exact wpAny_pure (hP s₁ hp r le q _ (by rw [Heap.size_push, Heap.size_push]; exact Nat.le_trans (Nat.le_succ _) (Nat.le_succ _)) fun b o hb => Heap.get?_push_of_some _ (Heap.get?_push_of_some _ hb))
theorem drain {I : Addr} {g : Nat} {go : Obj} {res : Value} {R : Result → Shared → Prop} (hh : A.handled = none) (hroom : A.depth < recursionLimit) (lim : B.heap.NoLimit) (hkI : hk I = some (.obj go)) (hgo : ∀ h : Heap, h.get? I = some go → h.IsGen I g) (hIL : I ≠ L) (hkS : hk S = none) (hgB : g < B.gens.size)
    (hR : ∀ s' hp', Rel B hp' s' → ImmLe h0 s'.heap → F hp' → R (.ok (.ret res)) s') :
    ∀ (n : Nat) (s : Shared) (hp : Hp) (m : Loc) (acc : List AV) (gs : GenState), Rel B (hp.set L (.ns m)) s → ImmLe h0 s.heap → hp S = some (.list acc) → S ≠ L → Hp.Le hk hp → s.gens[g]? = some gs →
      (∀ s', Rel B (hp.set L (.ns m)) s' → ImmLe h0 s'.heap → gs.Goes (model prog w) A.in1.in1 (GR B h0 F) (GY B L S h0 hk) n (.send .none) s') →
      codeAny (model prog w) A (.builtin "list.extend.loop" ⟨[.ref S, .ref I, res], []⟩) R s := by
  have step : ∀ (n : Nat) (s : Shared) (hp : Hp) (m : Loc) (acc : List AV) (gs : GenState), Rel B (hp.set L (.ns m)) s → ImmLe h0 s.heap → hp S = some (.list acc) → S ≠ L → Hp.Le hk hp → s.gens[g]? = some gs →
      (∀ s', Rel B (hp.set L (.ns m)) s' → ImmLe h0 s'.heap → gs.Goes (model prog w) A.in1.in1 (GR B h0 F) (GY B L S h0 hk) n (.send .none) s') →
      (∀ m' (s : Shared) (hp : Hp) (m : Loc) (acc : List AV) (gs : GenState), n = m' + 1 → Rel B (hp.set L (.ns m)) s → ImmLe h0 s.heap → hp S = some (.list acc) → S ≠ L → Hp.Le hk hp → s.gens[g]? = some gs →
        (∀ s', Rel B (hp.set L (.ns m)) s' → ImmLe h0 s'.heap → gs.Goes (model prog w) A.in1.in1 (GR B h0 F) (GY B L S h0 hk) m' (.send .none) s') →
        codeAny (model prog w) A (.builtin "list.extend.loop" ⟨[.ref S, .ref I, res], []⟩) R s) →
      codeAny (model prog w) A (.builtin "list.extend.loop" ⟨[.ref S, .ref I, res], []⟩) R s := by
    intro n s hp m acc gs r le hS hSL hkp hgs hgoes ih
    refine codeAny_builtin PySem.F.entry_extend_loop ?_
    rw [Around.under_plainId PySem.F.plain_extend_loop _]
    show wpAny _ A.in1 (pyNext (.ref I) >>= _) _ _ s
    have hIg : s.heap.IsGen I g := hgo _ ((r.objs I (.obj go) (by rw [Hp.set_ne _ _ hIL]; exact hkp _ _ hkI)).2.1)
    refine wpAny_bind (next_gen (A := A.in1) hh (lim.keeps r.keep) hroom hIg hgs (hgoes _ (r.gen g rfl) le) (fun v s₁ gs' hb hv => ?_) (fun s₁ hp₁ r₁ le₁ q h' hz k => ?_))
    · obtain ⟨av, hp₁, m₁, acc₁, r₁, le₁, hav, hS₁, hSL₁, hlen, hk₁, hgo₁⟩ := hv
      obtain ⟨vs, nn, hl, hvs⟩ := (r₁.objs S _ (by rw [Hp.set_ne _ _ hSL₁]; exact hS₁)).2
      have r₂ := r₁.gen g hb
      have hsz : vs.size = acc₁.length := by rw [← Array.length_toList]; exact hvs.length
      have hl₂ : (s₁.setGen g gs').heap.get? S = some { cls := .type "list", dict := none, data := .seq vs nn, slots := #[] } := hl
      have t := r₂.turn (a := S) (o := .list acc₁) (by rw [Hp.set_ne _ _ hSL₁]; exact hS₁) (h' := s₁.heap.update S (Obj.mapSeq (·.push v))) (Heap.SameBut.update ..) (.list (acc₁ ++ [av]))
        (fun le => ⟨_, _, IsL.update hl (·.push v), by rw [Array.toList_push]; exact (hvs.mono le).append (VRs.one (hav.mono le))⟩) s₁.toks
      rw [Hp.set_comm _ _ _ (Ne.symm hSL₁)] at t
      have hgs' : (s₁.setGen g gs').gens[g]? = some gs' := by
        have : g < s₁.gens.size := Nat.lt_of_lt_of_le hgB r₁.bare.2
        simp [Shared.setGen, this]
      show wpAny _ A.in1 (updateSeq S (·.push v) >>= _) _ _ _
      refine wpAny_bind (wpAny_updateSeq hl₂ rfl (wpAny_pure ⟨plainId_quiet PySem.F.plain_extend_loop _, ?_⟩) (by rw [hsz]; have := sizeLine_eq; omega) (by show (vs.push v).size ≤ sizeLine + 1; rw [Array.size_push, hsz]; have := sizeLine_eq; omega))
      have leN : ImmLe h0 (s₁.heap.update S (Obj.mapSeq (·.push v))) := le₁.trans t.2
      cases n with
      | zero => exact (hgo₁ _ t.1 leN).elim
      | succ n => exact ih n _ (hp₁.set S (.list (acc₁ ++ [av]))) m₁ (acc₁ ++ [av]) gs' rfl t.1 leN (Hp.set_same ..) hSL₁ (hk₁.set hkS _) hgs' hgo₁
    · refine wpAny_pure (hR _ hp₁ ?_ (le₁.trans (ImmLe.keep k)) q)
      have r₂ := r₁.gen g (gs := .finished) rfl
      exact ⟨fun b o e => k _ _ (r₁.keep b o e), fun a o e => ⟨(r₁.objs a o e).1, (r₁.objs a o e).2.here (ImmLe.keep k) fun o' e' => k _ _ e'⟩, r₁.os, r₂.bare, Nat.le_trans r₁.size hz⟩
  intro n
  induction n with
  | zero => intro s hp m acc gs r le hS hSL hkp hgs hgoes; exact step 0 s hp m acc gs r le hS hSL hkp hgs hgoes (fun m' _ _ _ _ _ e => by cases e)
  | succ n ih => intro s hp m acc gs r le hS hSL hkp hgs hgoes; exact step (n + 1) s hp m acc gs r le hS hSL hkp hgs hgoes (fun m' s hp m acc gs e => by cases e; exact ih s hp m acc gs)
end
end Mine

open PySem PySem.W PyProof.Rows PySem.Calls
set_option maxRecDepth 100000
namespace Mine
section
variable {prog : Program} {w : World} {A : Around} {E : Value → Shared → Prop} {s : Shared} {R : Result → Shared → Prop}
theorem init_gen {I S : Addr} {g : Nat} (hS : s.heap.get? S = some { cls := .type "list", data := .seq #[] }) (hI : s.heap.IsGen I g) (hSI : S ≠ I)
    (hloop : ∀ h' c', Heap.SameBut S s.heap h' → h'.get? S = some { cls := .type "list", dict := none, data := .seq #[] c', slots := #[] } → codeAny (model prog w) A (.builtin "list.extend.loop" ⟨[.ref S, .ref I, .none], []⟩) R { s with heap := h' }) :
    wpAny (model prog w) A.in1 (Builtin.«list.__init__» ⟨[.ref S, .ref I], []⟩)
      (fun fin s' => match fin with | .done f => R (.ok f) s' | .again c' => c'.quiet = true ∧ codeAny (model prog w) A c' R s') (fun e s' => R (.error e) s') s := by
  show wpAny _ A.in1 (do let old ← Builtin.List.listItems (.ref S); Builtin.List.listUpdate (.ref S) (fun _ => #[]); letGo old.toList.reverse; Builtin.List.listExtendWith (.ref S) (.ref I) .none) _ _ s
  refine wpAny_bind ?_
  unfold Builtin.List.listItems
  refine wpAny_bind (wpAny_seqItems hS rfl (wpAny_pure ?_))
  show wpAny _ A.in1 (updateSeq S (fun _ => #[]) >>= fun _ => letGo (#[] : Array Value).toList.reverse >>= fun _ => Builtin.List.listExtendWith (.ref S) (.ref I) .none) _ _ s
  refine wpAny_bind (wpAny_updateSeq hS rfl ?_)
  have hS₁ := Heap.get?_update_self (Obj.mapSeq (fun _ => (#[] : Array Value))) hS rfl
  have hs₁ : Heap.SameBut S s.heap (s.heap.update S (Obj.mapSeq (fun _ => (#[] : Array Value)))) := Heap.SameBut.update ..
  refine wpAny_bind (wpAny_letGo ?_)
  have hI₁ := hI.sameBut hs₁ (Ne.symm hSI)
  unfold Builtin.List.listExtendWith
  refine wpAny_bind (wpAny_typeOf (s := { s with heap := s.heap.update S (Obj.mapSeq (fun _ => (#[] : Array Value))) }) (Heap.IsGen.typeIs (s := { s with heap := s.heap.update S (Obj.mapSeq (fun _ => (#[] : Array Value))) }) hI₁) ?_)
  have h1 : Builtin.List.listSameRef (.ref S) (.ref I) = false := by simp [Builtin.List.listSameRef, hSI]
  have h2 : (Value.type "generator" == Value.type "list") = false := by decide
  have h3 : (Value.type "generator" == Value.type "tuple") = false := by decide
  simp only [h1, h2, h3, Bool.or_false, Bool.false_eq_true, if_false]
  have hT₁ := Heap.IsGen.typeIs (s := { s with heap := s.heap.update S (Obj.mapSeq (fun _ => (#[] : Array Value))) }) hI₁
  refine wpAny_bind (wpAny_pyIter_gen (s := { s with heap := s.heap.update S (Obj.mapSeq (fun _ => (#[] : Array Value))) }) hI₁ ?_)
  refine wpAny_bind (wpAny_holding ?_)
  unfold Builtin.List.listLengthHint
  refine wpAny_bind (wpAny_specialOf hT₁ F.gen_no_len ?_)
  show wpAny _ A.in1 (specialOf (Value.ref I) (Str.ofString "__length_hint__") >>= _) _ _ _
  refine wpAny_bind (wpAny_specialOf hT₁ F.gen_no_hint ?_)
  refine wpAny_pure ?_
  show wpAny _ A.in1 (rule "list.extend.makes-room" >>= fun _ => Builtin.List.listTouch (.ref S) >>= fun _ => again (.builtin "list.extend.loop" ⟨[.ref S, .ref I, .none], []⟩)) _ _ _
  refine wpAny_bind (wpAny_rule (wpAny_bind ?_))
  show wpAny _ A.in1 (updateSeq S (·.push .none) >>= fun _ => updateSeq S (·.pop)) _ _ _
  refine wpAny_bind (wpAny_updateSeq hS₁ rfl ?_)
  have hS₂ := Heap.get?_update_self (Obj.mapSeq (·.push Value.none)) hS₁ rfl
  refine wpAny_updateSeq (hz := by seq_fits) hS₂ rfl ?_
  have hS₃ := Heap.get?_update_self (Obj.mapSeq (·.pop)) hS₂ rfl
  refine wpAny_pure ⟨plainId_quiet F.plain_extend_loop _, hloop _ _ ?_ hS₃⟩
  exact (hs₁.trans (Heap.SameBut.update ..)).trans (Heap.SameBut.update ..)
end
end Mine

open PySem PySem.W PyProof.Rows PySem.Calls
set_option maxRecDepth 100000
namespace Mine
def Kf : Flow → Sem PySem.Fin := fun f => .pure (.done (.ret (match f with | .ret v => v | _ => .none)))
def Hf (env : Env) : Value → Sem PySem.Fin := fun e => (leaving env e).wrap (fun _ => .raise e) .raise id id
section
variable {prog : Program} {w : World} {A : Around} {E : Value → Shared → Prop} {B : Shared} {env : Env} {m : Loc} {hp : Hp} {K : Frag}
theorem GF_end {env : Env} {h0 : Heap} {hk : Hp} {S : Addr} {F : Hp → Prop} {n : Nat} {c : Code} (h : F (hp.set env.locals (.ns m))) : GF prog w A B env h0 hk S F n c [] Kf .next m hp := fun s s₀ fl r le hf => by
  cases hf
  exact seg_end (.ok (.ret .none)) ⟨rfl, _, r, le, h⟩
theorem call_gen {f : Addr} {fd : FuncData} {body : List Stmt} {avs : List AV} {bs : List (PySem.Str × AV)} {s : Shared} {vs : List Value} {Q : Value → Shared → Prop} (G : Gnd K B) (ho : K.lookup f = some ⟨.type "function", none, .func fd, #[]⟩) (hcd : codeIn K fd.code fd.qualname = true)
    (hbody : fd.body = .stmts body) (hroom : A.depth < recursionLimit)
    (hbind : ∀ s vs, VRs s.heap avs vs → (∀ b o, B.heap.get? b = some o → s.heap.get? b = some o) → ∃ us : List (PySem.Str × Value), BindsTo s fd ⟨vs, []⟩ us ∧ us.reverse.map (·.1) = bs.map (·.1) ∧ VRs s.heap (bs.map (·.2)) (us.reverse.map (·.2)))
    (hloc : bs.all (fun x => fd.scope.names.lookup x.1 == some .local) = true) (hcell : ∀ x ∈ fd.scope.names, x.2 ≠ .cell)
    (r : Rel B (hp.set env.locals (.ns m)) s) (hv : VRs s.heap avs vs)
    (h : ∀ L I go s', hp L = none → L ≠ env.locals → hp I = none → I ≠ env.locals → I ≠ L → (∀ h : Heap, h.get? I = some go → h.IsGen I s.gens.size) →
      Rel { B with gens := s'.gens } ((((hp.set env.locals (.ns m)).set I (.obj go))).set L (.ns (locOf bs))) s' → s.gens.size < s'.gens.size → s'.gens[s.gens.size]? = some (.fresh (.func body (callEnv fd L f))) → ImmLe s.heap s'.heap → Q (.ref I) s')
    (hco : fd.scope.isCoroutine = false := by rfl) (hgen : fd.scope.isGenerator = true := by rfl) (hk : fd.scope.kind = .function := by rfl) :
    wpAny (model prog w) A (call (.ref f) vs) Q E s := by
  obtain ⟨us, hb, e1, e2⟩ := hbind s vs hv r.keep
  have nm : us.map (·.1) = (bs.map (·.1)).reverse := by rw [← e1, List.map_reverse, List.reverse_reverse]
  have hlim := G.lim.keeps r.keep
  refine wpAny_call (codeAny_call_generator hroom (r.keep _ _ (G.X _ _ ho)) rfl hco hgen hbody (codeRec_of (G.X.keeps r.keep) hcd) (hb _ _ _ _ ?_))
  refine wpAny_newFunctionEnv hcell (fun x hx => ?_) (fun h₀ hns₀ hsb₀ => ⟨hlim.fresh _ hsb₀, ?_⟩) hk
  · have : x.1 ∈ bs.map (·.1) := by
      rw [← List.mem_reverse, ← nm]
      exact List.mem_map_of_mem hx
    obtain ⟨y, hy, e⟩ := List.mem_map.mp this
    rw [← e]
    simpa using List.all_eq_true.mp hloc y hy
  · have hk₀ : ∀ b o, s.heap.get? b = some o → h₀.get? b = some o := fun b o e => hsb₀.extBut b o (Nat.ne_of_lt (Heap.lt_size e)) (Heap.get?_push_of_some _ e)
    have hne : s.heap.objs.size ≠ env.locals := fun e => by have f := r.fresh; rw [e, Hp.set_same] at f; cases f
    have hfr : hp s.heap.objs.size = none := by have f := r.fresh; rw [Hp.set_ne _ _ hne] at f; exact f
    have le : ImmLe s.heap h₀ := ImmLe.keep hk₀
    have rel : Rel B ((hp.set env.locals (.ns m)).set (callEnv fd s.heap.objs.size f).locals (.ns (locOf bs))) { s with heap := h₀, toks := s.toks + us.length } := by
      refine ⟨fun b o e => hk₀ _ _ (r.keep b o e), fun a o' e => ?_, r.os, r.bare, ?_⟩
      · by_cases ha : a = s.heap.objs.size
        · subst ha
          rw [show (callEnv fd s.heap.objs.size f).locals = s.heap.objs.size from rfl, Hp.set_same] at e
          cases e
          exact ⟨r.size, _, hns₀, locR_of e1 (e2.mono le)⟩
        · rw [show (callEnv fd s.heap.objs.size f).locals = s.heap.objs.size from rfl, Hp.set_ne _ _ ha] at e
          exact ⟨(r.objs a o' e).1, (r.objs a o' e).2.here le fun o'' e => hk₀ _ _ e⟩
      · exact Nat.le_trans r.size (Nat.le_of_lt hns₀.lt)
    generalize hgo : ({ cls := .type "generator", data := .fields #[.int s.gens.size 0, .str fd.name (s.toks + us.length), .str fd.qualname (s.toks + us.length + 1)] } : Obj) = go
    have hgen' : ∀ h : Heap, ∀ I, h.get? I = some go → h.IsGen I s.gens.size := fun h I e => ⟨go, _, _, e, by rw [← hgo], by rw [← hgo], by rw [← hgo]⟩
    have x := Rel.newAt rel go (.obj go) ⟨Heap.get?_push_size _ (by rw [← hgo]; rfl), fun i => by obtain ⟨_, xs, n, e⟩ := i; rw [← hgo] at e; cases e⟩
    have hIe : h₀.objs.size ≠ env.locals := fun e => by have := x.2.1; rw [show ({ s with heap := h₀, toks := s.toks + us.length } : Shared).heap.objs.size = h₀.objs.size from rfl, e, Hp.set_same] at this; cases this
    have hIn : hp h₀.objs.size = none := by have := x.2.1; rw [show ({ s with heap := h₀, toks := s.toks + us.length } : Shared).heap.objs.size = h₀.objs.size from rfl, Hp.set_ne _ _ hIe] at this; exact this
    refine h s.heap.objs.size h₀.objs.size go _ hfr hne hIn hIe x.2.2.1 (fun h => hgen' h _) ?_ ?_ ?_ ?_
    · have y := x.1
      exact ⟨y.keep, y.objs, y.os, ⟨r.bare.1.push rfl, Nat.le_refl _⟩, y.size⟩
    · show s.gens.size < (s.gens.push _).size
      rw [Array.size_push]; exact Nat.lt_succ_self _
    · exact Array.getElem?_push_size ..
    · exact le.trans x.2.2.2
end
end Mine

open PySem PySem.W PyProof.Rows PySem.Calls
set_option maxRecDepth 100000
namespace Mine
section
variable {prog : Program} {w : World} {A : Around} {E : Value → Shared → Prop} {B : Shared} {env : Env} {m : Loc} {hp : Hp} {K : Frag}
theorem call_listG {I g n : Nat} {go : Obj} {body : List Stmt} {genv : Env} {h0 : Heap} {F : Addr → Hp → Prop} {s : Shared} {Q : Value → Shared → Prop} (hh : A.handled = none) (hroom : A.depth < recursionLimit) (lim : B.heap.NoLimit)
    (r : Rel B (hp.set genv.locals (.ns m)) s) (le : ImmLe h0 s.heap) (hI : hp I = some (.obj go)) (hIL : I ≠ genv.locals) (hgo : ∀ h : Heap, h.get? I = some go → h.IsGen I g) (hg : s.gens[g]? = some (.fresh (.func body genv))) (hgB : g < B.gens.size)
    (hbody : ∀ S, hp S = none → S ≠ genv.locals → GS prog w A.in1.in1.in1 B genv h0 (Hp.set (fun _ => none) I (.obj go)) S (F S) n (.func body genv) [] Kf (Hf genv) body m (hp.set S (.list [])))
    (hQ : ∀ S s' hp', hp S = none → S ≠ genv.locals → Rel B hp' s' → ImmLe h0 s'.heap → F S hp' → Q (.ref S) s') : wpAny (model prog w) A (call (.type "list") [.ref I]) Q E s := by
  refine callType_codes (Q₁ := fun obj s₁ => obj = .ref s.heap.objs.size ∧ s₁ = { s with heap := s.heap.push { cls := .type "list", data := .seq #[] } }) PySem.F.called_list (PySem.F.typeCall_list_1 _) PySem.F.entry_list_init (code_list_new _ ⟨rfl, rfl⟩) fun obj s₁ h₁ => ?_
  obtain ⟨rfl, rfl⟩ := h₁
  have hS : (s.heap.push { cls := .type "list", data := .seq #[] }).get? s.heap.objs.size = some { cls := .type "list", data := .seq #[] } := Heap.get?_push_size _ rfl
  have x := Rel.newAt r { cls := .type "list", data := .seq #[] } (.list []) ⟨#[], 0, hS, by simp [VRs]⟩
  have hIS : s.heap.objs.size ≠ I := Ne.symm (Hp.ne_of hI x.2.1)
  have hIg : (s.heap.push { cls := .type "list", data := .seq #[] }).IsGen I g := hgo _ (Heap.get?_push_of_some _ (r.objs I (.obj go) (by rw [Hp.set_ne _ _ hIL]; exact hI)).2.1)
  refine ⟨⟨_, hS, rfl⟩, PySem.F.args_list_init_2 _ _, init_gen (A := A.in1) (s := { s with heap := s.heap.push { cls := .type "list", data := .seq #[] } }) hS hIg hIS fun h' c' hs' hS' => ?_⟩
  have t := Rel.turn x.1 (a := s.heap.objs.size) (o := .list []) (by rw [Hp.set_ne _ _ x.2.2.1, Hp.set_same]) hs' (.list []) (fun _ => ⟨#[], c', hS', by simp [VRs]⟩) s.toks
  rw [Hp.set_comm _ _ _ (Ne.symm x.2.2.1), Hp.set_set] at t
  refine drain (A := A.in1) (F := F s.heap.objs.size) (hk := Hp.set (fun _ => none) I (.obj go)) (L := genv.locals) (S := s.heap.objs.size) (go := go) hh hroom lim (Hp.set_same ..) hgo hIL (by rw [Hp.set_ne _ _ hIS]) hgB (fun s' hp' r' le' q => ⟨rfl, hQ _ s' hp' x.2.1 x.2.2.1 r' le' q⟩) n _ (hp.set s.heap.objs.size (.list [])) m [] (.fresh (.func body genv)) t.1 ((le.trans x.2.2.2).trans t.2) (Hp.set_same ..) x.2.2.1 (fun z oz hz => by
    by_cases hzI : z = I
    · subst hzI; rw [Hp.set_same] at hz; rw [Hp.set_ne _ _ (Ne.symm hIS), hI]; exact hz
    · rw [Hp.set_ne _ _ hzI] at hz; cases hz) hg ?_
  intro s' r' le'
  exact ⟨rfl, seg_func (hbody _ x.2.1 x.2.2.1 s' s' r' le')⟩
theorem EV_listGen {func o e : Expr} {name : PySem.Str} {rest : List Expr} {apos ipos pos} {pl : Sem Bool} {C f : Addr} {fd : FuncData} {body : List Stmt} {Q : AV → Hp → Prop} (G : Gnd K B) (P : Cls K C) (hf : findIn K (.ref C) name = some (some (.ref f))) (ht : typeIn K (.ref f) = some (.type "function")) (hk : keepIn K (.ref f) = true)
    (hh : A.handled = none) (hroom : A.depth < recursionLimit) (ho : K.lookup f = some ⟨.type "function", none, .func fd, #[]⟩) (hcd : codeIn K fd.code fd.qualname = true) (hbody : fd.body = .stmts body) (hcell : ∀ x ∈ fd.scope.names, x.2 ≠ .cell)
    (h : EV (model prog w) A E B env func m hp fun fv hp₀ => fv = .ty "list" ∧ EV (model prog w) A E B env o m hp₀ fun v hp₁ => ∃ x dx ma, v = .ref x ∧ Ins hp₁ env.locals x dx C ma ∧ ma name = none ∧ EVS (model prog w) A E B env (e :: rest) m hp₁ fun vs hp₂ =>
      ∃ (bs : List (PySem.Str × AV)) (n : Nat), (∀ s ws, VRs s.heap (.ref x :: vs) ws → (∀ b o, B.heap.get? b = some o → s.heap.get? b = some o) → ∃ us : List (PySem.Str × Value), BindsTo s fd ⟨ws, []⟩ us ∧ us.reverse.map (·.1) = bs.map (·.1) ∧ VRs s.heap (bs.map (·.2)) (us.reverse.map (·.2))) ∧
        bs.all (fun x => fd.scope.names.lookup x.1 == some .local) = true ∧
        ∀ (gn : Array GenState) (h0 : Heap) (L I S : Addr) (go : Obj), hp₂ L = none → L ≠ env.locals → hp₂ I = none → I ≠ env.locals → I ≠ L → hp₂ S = none → S ≠ env.locals → S ≠ L → S ≠ I →
          GS prog w A.in1.in1.in1 { B with gens := gn } (callEnv fd L f) h0 (Hp.set (fun _ => none) I (.obj go)) S (fun hp' => ∃ hp₃, Hp.Le (hp₃.set env.locals (.ns m)) hp' ∧ Q (.ref S) hp₃) n (.func body (callEnv fd L f)) [] Kf (Hf (callEnv fd L f)) body (locOf bs) (((hp₂.set env.locals (.ns m)).set I (.obj go)).set S (.list [])))
    (hc0 : eval (.Call func [.Call (.Attribute o name apos) (e :: rest) [] ipos] [] pos) env = (do callWith pos (← eval func env) [] (backTo pos (starEach [.Call (.Attribute o name apos) (e :: rest) [] ipos] env)) (backToKw pos (keywordEach [] env))) := by rfl)
    (he0 : starEach [.Call (.Attribute o name apos) (e :: rest) [] ipos] env = [(false, eval (.Call (.Attribute o name apos) (e :: rest) [] ipos) env)] := by rfl)
    (hc : eval (.Call (.Attribute o name apos) (e :: rest) [] ipos) env = (do
      let ov ← eval o env
      standAt apos.atName
      let (f, first) ← holding [ov] (getMethod ov name pl)
      callWith ipos f first (backTo ipos (starEach (e :: rest) env)) []) := by rfl)
    (he : starEach (e :: rest) env = (false, eval e env) :: starEach rest env := by rfl) (hplain : (backTo ipos (starEach rest env)).any (·.1) = false := by rfl)
    (hco : fd.scope.isCoroutine = false := by rfl) (hgen : fd.scope.isGenerator = true := by rfl) (hkd : fd.scope.kind = .function := by rfl) :
    EV (model prog w) A E B env (.Call func [.Call (.Attribute o name apos) (e :: rest) [] ipos] [] pos) m hp Q := fun s r => by
  refine Call_ (h.use r fun u s₀ fv hp₀ r₀ le₀ hu ⟨hf0, q⟩ => ?_) hc0
  subst hf0; simp only [VR] at hu; subst hu
  refine PyProof.Rows.callWith_type1 (args_cons ?_ he0) he0 rfl
  refine MethodCall_ (pl := pl) (q.use r₀ fun u s₁ l hp₁ r₁ le₁ hu x => ?_) hc
  obtain ⟨x, dx, ma, rfl, I, hno, q⟩ := x
  simp only [VR] at hu; subst hu
  obtain ⟨od, mv, IA, hn, hm, hw, hl⟩ := r₁.ins I
  refine method_fn (G.X.keeps r₁.keep) IA P.ga P.gk hf ht (by unfold shadowIn; simp [hl, hm.2 name hno]) ?_
  refine callWith_K (K := K) G.X hk (wpAny_mono (q ipos s₁ r₁) (fun vs s₂ ⟨avs, hp₂, r₂, le₂, hv, q⟩ => ⟨G.X.keeps r₂.keep, ?_⟩) fun _ _ x => x) he hplain
  obtain ⟨bs, n, hbind, hloc, q⟩ := q
  refine call_gen G ho hcd hbody hroom hbind hloc hcell r₂ (by simp only [VRs]; exact ⟨_, _, rfl, VR_ref, hv⟩) (fun L I' go s' hL hLe hI hIe hIL hgo rel hsz hfr le' => ?_) hco hgen hkd
  refine args_nil ?_
  have hIset : ((hp₂.set env.locals (.ns m)).set I' (.obj go)) I' = some (.obj go) := Hp.set_same ..
  refine call_listG (n := n) (genv := callEnv fd L f) (h0 := s.heap) (F := fun S hp' => ∃ hp₃, Hp.Le (hp₃.set env.locals (.ns m)) hp' ∧ Q (.ref S) hp₃) (B := { B with gens := s'.gens }) hh hroom G.lim rel (((le₀.trans le₁).trans le₂).trans le') hIset hIL hgo hfr hsz (fun S hS hSL => ?_) fun S s'' hp' hS hSL r'' le'' ⟨hp₃, hle, hq⟩ => ?_
  · have hSI : S ≠ I' := fun e => by rw [e, Hp.set_same] at hS; cases hS
    rw [Hp.set_ne _ _ hSI] at hS
    have hSe : S ≠ env.locals := fun e => by rw [e, Hp.set_same] at hS; cases hS
    rw [Hp.set_ne _ _ hSe] at hS
    exact q s'.gens s.heap L I' S go hL hLe hI hIe hIL hS hSe hSL hSI
  · refine ⟨.ref S, hp₃, ?_, le'', VR_ref, hq⟩
    have r3 := r''.sub hle
    exact ⟨r3.keep, r3.objs, r3.os, ⟨r3.bare.1, Nat.le_trans r₂.bare.2 (Nat.le_trans (Nat.le_of_lt hsz) r3.bare.2)⟩, r3.size⟩
end
end Mine

open PySem PySem.W PyProof.Rows PySem.Calls
set_option maxRecDepth 100000
namespace Mine
section
variable {prog : Program} {w : World} {A : Around} {E : Value → Shared → Prop} {B : Shared} {env : Env} {m : Loc} {hp : Hp} {K : Frag}
theorem CL_max {a b : Int} {Q : AV → Hp → Prop} (hh : A.handled = none) (h : Q (.int (if b > a then b else a)) hp) : CL (model prog w) A E B env (.builtin "max") m [.int a, .int b] hp Q := fun s vs r hv => by
  obtain ⟨v, u, rfl, h1, h2⟩ := VRs_two hv
  simp only [VR] at h1 h2; obtain ⟨t, rfl⟩ := h1; obtain ⟨t', rfl⟩ := h2
  refine PySem.max_two_ints hh fun h' tk k => ?_
  obtain ⟨r', le⟩ := r.grown k tk
  refine ⟨_, hp, r', le, ?_, h⟩
  split <;> exact VR_int
theorem CL_min {a b : Int} {Q : AV → Hp → Prop} (hh : A.handled = none) (h : Q (.int (if b < a then b else a)) hp) : CL (model prog w) A E B env (.builtin "min") m [.int a, .int b] hp Q := fun s vs r hv => by
  obtain ⟨v, u, rfl, h1, h2⟩ := VRs_two hv
  simp only [VR] at h1 h2; obtain ⟨t, rfl⟩ := h1; obtain ⟨t', rfl⟩ := h2
  refine PySem.min_two_ints hh fun h' tk k => ?_
  obtain ⟨r', le⟩ := r.grown k tk
  refine ⟨_, hp, r', le, ?_, h⟩
  split <;> exact VR_int
end
end Mine
namespace Mine
section
variable {prog : Program} {w : World} {A : Around} {E : Value → Shared → Prop} {s : Shared}
theorem setItem_idx {l : Addr} {items : Array Value} {n : Nat} {k : Int} {t : Tok} {v : Value} {Q : Unit → Shared → Prop} (hl : IsL s.heap l items n) (h0 : 0 ≤ k) (hj : k < items.size) (hfit : k < 2 ^ 63)
    (hQ : Q () { s with heap := s.heap.update l (Obj.mapSeq (·.setIfInBounds k.toNat v)) }) : wpAny (model prog w) A (setItem (.ref l) (.int k t) v) Q E s := by
  have hl' := hl.isList
  unfold setItem
  refine wpAny_holding ?_
  refine wpAny_bind (wpAny_sequenceKey hl'.typeIs (by decide) ?_)
  refine wpAny_bind (wpAny_callSpecial?_slot (name := Str.ofString "__setitem__") hl'.typeIs slot_list_setitem
    (wpAny_call_entry slot_list_setitem hl'.typeIs entry_list_setitem ?_ (args_list_setitem _ _ _)))
  show wpAny _ _ (Builtin.List.listSubscript? (.int k t) >>= _) _ _ s
  refine wpAny_bind (wpAny_listSubscript_int (fitsIndex_of h0 hfit) ?_)
  clear hfit
  obtain ⟨j, rfl⟩ := Int.eq_ofNat_of_zero_le h0
  have hj' : j < items.size := by omega
  have hx' : items[j]? = some items[j] := Array.getElem?_eq_getElem hj'
  show wpAny _ _ ((seqItemAt l j >>= fun r => pure (r.map (j, ·))) >>= _) _ _ s
  refine wpAny_bind (wpAny_bind (wpAny_seqItemAt (show s.heap.get? l = some _ from hl) rfl (wpAny_pure ?_)))
  rw [hx']
  show wpAny _ _ (setSeqItemAt l j v >>= _) _ _ s
  refine wpAny_bind (wpAny_setSeqItemAt (show s.heap.get? l = some _ from hl) rfl ?_)
  exact wpAny_pure ⟨.none, rfl, wpAny_pure hQ⟩
theorem setItem_last {l : Addr} {items : Array Value} {n : Nat} {t : Tok} {v : Value} {Q : Unit → Shared → Prop} (hl : IsL s.heap l items n) (hj : 0 < items.size)
    (hQ : Q () { s with heap := s.heap.update l (Obj.mapSeq (·.setIfInBounds (items.size - 1) v)) }) : wpAny (model prog w) A (setItem (.ref l) (.int (-1) t) v) Q E s := by
  have hl' := hl.isList
  unfold setItem
  refine wpAny_holding ?_
  refine wpAny_bind (wpAny_sequenceKey hl'.typeIs (by decide) ?_)
  refine wpAny_bind (wpAny_callSpecial?_slot (name := Str.ofString "__setitem__") hl'.typeIs slot_list_setitem
    (wpAny_call_entry slot_list_setitem hl'.typeIs entry_list_setitem ?_ (args_list_setitem _ _ _)))
  show wpAny _ _ (Builtin.List.listSubscript? (.int (-1) t) >>= _) _ _ s
  refine wpAny_bind (wpAny_listSubscript_int (fitsIndex_neg (by decide) (by decide)) ?_)
  have hidx : seqIndex? (-1) items.size = some (items.size - 1) := by
    rw [seqIndex_neg (by decide) (by omega)]; congr 1; omega
  have hx' : items[items.size - 1]? = some (items[items.size - 1]'(by omega)) := Array.getElem?_eq_getElem (by omega)
  show wpAny _ _ ((Builtin.List.listItems (.ref l) >>= fun xs => pure ((seqIndex? (-1) xs.size).bind fun i => xs[i]?.map (i, ·))) >>= _) _ _ s
  refine wpAny_bind (wpAny_bind ?_)
  show wpAny _ _ (seqItems? (.ref l) >>= _) _ _ s
  refine wpAny_bind (wpAny_seqItems (show s.heap.get? l = some _ from hl) rfl (wpAny_pure (wpAny_pure ?_)))
  rw [hidx]
  simp only [Option.bind_some, hx', Option.map_some]
  refine wpAny_bind (wpAny_setSeqItemAt (show s.heap.get? l = some _ from hl) rfl ?_)
  exact wpAny_pure ⟨.none, rfl, wpAny_pure hQ⟩
end
end Mine

open PySem PySem.W PyProof.Rows PySem.Calls
set_option maxRecDepth 100000
namespace Mine
theorem VRs.set {h : Heap} : ∀ {xs : List AV} {vs : List Value} {i : Nat} {x : AV} {v : Value}, VRs h xs vs → VR h x v → VRs h (xs.set i x) (vs.set i v)
  | [], _, _, _, _, e, _ => by simp only [VRs] at e; subst e; simp [VRs]
  | y :: xs, vs, 0, x, v, e, hx => by
    simp only [VRs] at e
    obtain ⟨u, r, rfl, _, e3⟩ := e
    simp only [List.set_cons_zero, VRs]
    exact ⟨v, r, rfl, hx, e3⟩
  | y :: xs, vs, i + 1, x, v, e, hx => by
    simp only [VRs] at e
    obtain ⟨u, r, rfl, e2, e3⟩ := e
    simp only [List.set_cons_succ, VRs]
    exact ⟨u, _, rfl, e2, VRs.set e3 hx⟩
section
variable {prog : Program} {w : World} {A : Around} {E : Value → Shared → Prop} {B : Shared} {env : Env} {m : Loc} {hp : Hp} {K : Frag}
def stored (xs : List AV) (k : Int) (v : AV) : List AV := if k = -1 then xs.set (xs.length - 1) v else xs.set k.toNat v
theorem ASG_item {o i : Expr} {pos} {v : AV} {Q : Loc → Hp → Prop}
    (h : EV (model prog w) A E B env o m hp fun ov hp₁ => EV (model prog w) A E B env i m hp₁ fun iv hp₂ => ∃ a xs k, ov = .ref a ∧ iv = .int k ∧ hp₂ a = some (.list xs) ∧ a ≠ env.locals ∧ ((k = -1 ∧ 0 < xs.length) ∨ (0 ≤ k ∧ k < xs.length ∧ k < 2 ^ 63)) ∧ Q m (hp₂.set a (.list (stored xs k v)))) : ASG (model prog w) A E B env (.Subscript o i pos) v m hp Q := fun s u r hu => by
  rw [assign_Subscript]
  refine wpAny_bind (wpAny_holding (h.use r fun ov s₁ av hp₁ r₁ le₁ hov q => wpAny_bind (wpAny_holding (q.use r₁ fun iv s₂ bv hp₂ r₂ le₂ hiv x => wpAny_bind (wpAny_standAt (wpAny_bind (wpAny_holding ?_)))))))
  obtain ⟨a, xs, k, rfl, rfl, ha, haL, hk, q⟩ := x
  simp only [VR] at hov hiv; subst hov; obtain ⟨t, rfl⟩ := hiv
  obtain ⟨vs, n, hl, hvs⟩ := r₂.at ha haL
  have hsz : vs.size = xs.length := by rw [← Array.length_toList]; exact hvs.length
  have hu₂ := hu.mono (le₁.trans le₂)
  have fin : ∀ j lst, stored xs k v = xs.set j v → wpAny (model prog w) A (release lst []) (fun _ s' => ∃ m' hp', Rel B (hp'.set env.locals (.ns m')) s' ∧ ImmLe s.heap s'.heap ∧ Q m' hp') E { s₂ with heap := s₂.heap.update a (Obj.mapSeq (·.setIfInBounds j u)) } := fun j lst hj => by
    have tt := r₂.turn (a := a) (by rw [Hp.set_ne _ _ haL]; exact ha) (h' := s₂.heap.update a (Obj.mapSeq (·.setIfInBounds j u))) (Heap.SameBut.update ..) (.list (stored xs k v))
      (fun le => ⟨_, _, IsL.update hl (·.setIfInBounds j u), by rw [hj, Array.toList_setIfInBounds]; exact VRs.set (hvs.mono le) (hu₂.mono le)⟩) s₂.toks
    rw [Hp.set_comm _ _ _ (Ne.symm haL)] at tt
    exact wpAny_release ⟨m, _, tt.1, (le₁.trans le₂).trans tt.2, q⟩
  rcases hk with ⟨rfl, hpos⟩ | ⟨h0, hlt, hfit⟩
  · refine setItem_last hl (by omega) ?_
    rw [hsz]
    exact fin _ _ (by unfold stored; rw [if_pos rfl])
  · refine setItem_idx hl h0 (by rw [hsz]; exact hlt) hfit (fin _ _ ?_)
    unfold stored
    rw [if_neg (by omega)]
theorem EX_AssignI {o i value : Expr} {pos' pos} {Q : AF → Loc → Hp → Prop}
    (h : EV (model prog w) A E B env value m hp fun v hp₁ => ASG (model prog w) A E B env (.Subscript o i pos') v m hp₁ fun m₂ hp₂ => Q .next m₂ hp₂)
    (hs : swapsWith value (some (.Subscript o i pos')) pos.line env = pure false := by rfl) : EX (model prog w) A E B env (.Assign [.Subscript o i pos'] value pos) m hp Q := fun s r => by
  rw [exec_Assign_Subscript o i pos' value pos hs]
  refine wpAny_bind (wpAny_standAt (wpAny_bind (h.use r fun u s₁ v hp₁ r₁ le₁ hu q => wpAny_bind ?_)))
  exact wpAny_mono (q s₁ u r₁ hu) (fun _ s₂ ⟨m₂, hp₂, r₂, le₂, q⟩ => wpAny_pure ⟨.next, m₂, hp₂, r₂, le₁.trans le₂, rfl, q⟩) fun _ _ x => x
end
end Mine

open PySem PySem.W PyProof.Rows PySem.Calls
set_option maxRecDepth 100000
namespace Mine
section
variable {prog : Program} {w : World} {A : Around} {B : Shared} {env : Env} {m : Loc} {hp : Hp} {h0 : Heap} {hk : Hp} {S : Addr} {F : Hp → Prop} {n : Nat} {c : Code} {fs : List Frame} {K : Flow → Sem PySem.Fin} {H : Value → Sem PySem.Fin}
theorem GS_seq {st : Stmt} {rest : List Stmt} (Mid : Loc → Hp → Prop) (h1 : EX (model prog w) (A.over c fs) (fun _ _ => False) B env st m hp fun f m' hp' => f = .next ∧ Mid m' hp') (h2 : ∀ m' hp', Mid m' hp' → GS prog w A B env h0 hk S F n c fs K H rest m' hp') :
    GS prog w A B env h0 hk S F n c fs K H (st :: rest) m hp := GS_cons (h1.mono fun f m' hp' ⟨e, x⟩ => by subst e; exact h2 m' hp' x)
theorem GF.le {n' : Nat} {f : AF} (h : GF prog w A B env h0 hk S F n c fs K f m hp) (le : n ≤ n') : GF prog w A B env h0 hk S F n' c fs K f m hp := fun s s₀ fl r l hf => seg_le (h s s₀ fl r l hf) le
theorem GS.le {n' : Nat} {sts : List Stmt} (h : GS prog w A B env h0 hk S F n c fs K H sts m hp) (le : n ≤ n') : GS prog w A B env h0 hk S F n' c fs K H sts m hp := fun s s₀ r l => seg_le (h s s₀ r l) le
end
end Mine

open PySem PySem.W PyProof.Rows PySem.Calls
set_option maxRecDepth 100000
namespace Mine
theorem VRs_ints {h : Heap} : ∀ {ns : List Int} {vs : List Value}, VRs h (ns.map .int) vs → ∃ xs : List (Int × Tok), vs = xs.map (fun p => .int p.1 p.2) ∧ xs.map (·.1) = ns
  | [], vs, e => by simp only [List.map_nil, VRs] at e; exact ⟨[], e, rfl⟩
  | n :: ns, vs, e => by
    simp only [List.map_cons, VRs, VR] at e
    obtain ⟨v, r, rfl, ⟨t, rfl⟩, e3⟩ := e
    obtain ⟨xs, rfl, rfl⟩ := VRs_ints e3
    exact ⟨(n, t) :: xs, rfl, rfl⟩
section
variable {prog : Program} {w : World} {A : Around} {E : Value → Shared → Prop} {B : Shared} {env : Env} {m : Loc} {hp : Hp} {K : Frag}
theorem CL_sum {a : Addr} {ns : List Int} {Q : AV → Hp → Prop} (hh : A.handled = none) (hl : Lst B hp env.locals a (ns.map .int)) (h : Q (.int ns.sum) hp) : CL (model prog w) A E B env (.builtin "sum") m [.ref a] hp Q := fun s vs r hv => by
  obtain ⟨v, rfl, h1⟩ := VRs_one hv
  simp only [VR] at h1; subst h1
  obtain ⟨us, hlst, hus⟩ := r.lst hl
  obtain ⟨xs, hx, hns⟩ := VRs_ints hus
  have hi : us = intItems xs.toArray := by
    apply Array.toList_inj.mp
    rw [hx]; simp [intItems]
  rw [hi] at hlst
  refine sum_intListG hh hlst fun h' tk t' k => ?_
  obtain ⟨r', le⟩ := r.grown k tk
  refine ⟨_, hp, r', le, ?_, h⟩
  rw [preSum_eq, List.take_of_length_le (by simp), show xs.toArray.toList.map (·.1) = ns from hns]
  exact VR_int
def TSTs (M : Model) (A : Around) (E : Value → Shared → Prop) (B : Shared) (env : Env) (ifs : List Expr) (m : Loc) (hp : Hp) (Q : Bool → Hp → Prop) : Prop :=
  ∀ s, Rel B (hp.set env.locals (.ns m)) s → wpAny M A (forIn ifs true fun c r => if r = true then do let ok ← isTrue c env (eval c env); pure (ForInStep.yield ok) else pure (ForInStep.yield r)) (fun b s' => ∃ hp', Rel B (hp'.set env.locals (.ns m)) s' ∧ ImmLe s.heap s'.heap ∧ Q b hp') E s
theorem TSTs_nil {Q : Bool → Hp → Prop} (h : Q true hp) : TSTs (model prog w) A E B env [] m hp Q := fun s r => wpAny_tests_nil ⟨hp, r, .refl _, h⟩
theorem TSTs_one {c : Expr} {Q : Bool → Hp → Prop} (h : TST (model prog w) A E B env c m hp Q) : TSTs (model prog w) A E B env [c] m hp Q := fun s r => wpAny_tests_one (h s r)
theorem Comp_core {elt target iter : Expr} {ifs : List Expr} {scope : Scope} {pos : Pos} {it acc : Addr} {n : Nat} {el : Nat → AV} {st : Nat → Obj → Prop} {I : Nat → List AV → Loc → Hp → Prop} {R : Result → Shared → Prop} (hL : it ≠ env.locals) (hA : acc ≠ env.locals) (hn : n ≤ 1000)
    (imm : ∀ i ob, st i ob → ¬ Imm ob)
    (next : ∀ i ys m₂ hp₂ s ob, i < n → I i ys m₂ hp₂ → hp₂ it = some (.obj ob) → st i ob → Rel B (hp₂.set env.locals (.ns m₂)) s → ∀ (E' : Value → Shared → Prop) (W : Option Value → Shared → Prop),
      (∀ v h' t' ob', VR s.heap (el i) v → h'.get? it = some ob' → st (i + 1) ob' → Heap.SameBut it s.heap h' → W (some v) { s with heap := h', toks := t' }) → wpAny (model prog w) A (pyNext (.ref it)) W E' s)
    (stop : ∀ ys m₂ hp₂ s ob, I n ys m₂ hp₂ → hp₂ it = some (.obj ob) → st n ob → Rel B (hp₂.set env.locals (.ns m₂)) s → ∀ (E' : Value → Shared → Prop) (W : Option Value → Shared → Prop),
      (∀ h' t', Heap.ExtBut it s.heap h' → W none { s with heap := h', toks := t' }) → wpAny (model prog w) A (pyNext (.ref it)) W E' s)
    (hset : ∀ i ys m₂ hp₂ ob, I i ys m₂ hp₂ → I i ys m₂ (hp₂.set it (.obj ob)))
    (hacc : ∀ i ys m₂ hp₂ zs, I i ys m₂ hp₂ → I i ys m₂ (hp₂.set acc (.list zs)))
    (turn : ∀ i ys m₂ hp₂ ob, i < n → I i ys m₂ hp₂ → hp₂ it = some (.obj ob) → hp₂ acc = some (.list ys) → ASG (model prog w) A (fun _ _ => False) B env target (el i) m₂ hp₂ fun m₃ hp₃ => TSTs (model prog w) A (fun _ _ => False) B env ifs m₃ hp₃ fun b hp₄ =>
      if b then EV (model prog w) A (fun _ _ => False) B env elt m₃ hp₄ fun v hp₅ => I (i + 1) (ys ++ [v]) m₃ hp₅ ∧ hp₅ it = some (.obj ob) ∧ hp₅ acc = some (.list ys)
      else I (i + 1) ys m₃ hp₄ ∧ hp₄ it = some (.obj ob) ∧ hp₄ acc = some (.list ys)) {s₀ : Shared}
    (hR : ∀ ys m' hp' s', I n ys m' hp' → hp' acc = some (.list ys) → Rel B ((hp'.del it).set env.locals (.ns m')) s' → ImmLe s₀.heap s'.heap → R (.ok .next) s')
    {s : Shared} {ob : Obj} (h0 : I 0 [] m hp) (hob : hp it = some (.obj ob)) (hac : hp acc = some (.list [])) (hst : st 0 ob) (rel : Rel B (hp.set env.locals (.ns m)) s) (le₀ : ImmLe s₀.heap s.heap)
    (cl : ∀ i ob, st i ob → ∃ n, ob.cls = .type n ∧ ["enumerate", "zip", "dict_itemiterator", "dict_reverseitemiterator", "odict_iterator", "itertools.zip_longest", "itertools.pairwise"].contains n = false) :
    codeAny (model prog w) A (.compLoop (.ListComp elt [⟨target, iter, ifs, 0⟩] scope pos) 0 (.ref it) (.ref acc) env) R s := by
  refine codeAny_loop rfl (fun k s' => ∃ i ys m₂ hp₂ ob, k = n - i ∧ i ≤ n ∧ ys.length ≤ i ∧ I i ys m₂ hp₂ ∧ hp₂ it = some (.obj ob) ∧ hp₂ acc = some (.list ys) ∧ st i ob ∧ Rel B (hp₂.set env.locals (.ns m₂)) s' ∧ ImmLe s₀.heap s'.heap) (fun k s' x => ?_) n ⟨0, [], m, hp, ob, rfl, Nat.zero_le _, Nat.zero_le _, h0, hob, hac, hst, rel, le₀⟩
  obtain ⟨i, ys, m₂, hp₂, ob, rfl, hi, hyl, hI, hob, hac, hst, r, le⟩ := x
  show wpAny _ A ((compTurn (.ListComp elt [⟨target, iter, ifs, 0⟩] scope pos) 0 (.ref it) (.ref acc) env).onRaise (fun x => do noteFrame x env; theTreesLotGoes x)) _ _ s'
  refine wpAny_noted ?_
  rw [compTurn_list]
  refine wpAny_bind (wpAny_standAt (wpAny_bind ?_))
  by_cases hlt : i < n
  · refine next i ys m₂ hp₂ s' ob hlt hI hob hst r _ _ fun v h' t' ob' hv hg hst' hs => ?_
    have t := r.turn (a := it) (o := .obj ob) (by rw [Hp.set_ne _ _ hL]; exact hob) hs (.obj ob') (fun _ => ⟨hg, imm _ _ hst'⟩) t'
    rw [Hp.set_comm _ _ _ (Ne.symm hL)] at t
    obtain ⟨nm, hcl, hno⟩ := cl _ _ hst'
    have hai : acc ≠ it := fun e => by rw [e, hob] at hac; cases hac
    refine wpAny_bind (letOwned_plain hg hcl hno ?_)
    have hturn := turn i ys m₂ (hp₂.set it (.obj ob')) ob' hlt (hset _ _ _ _ _ hI) (Hp.set_same ..) (by rw [Hp.set_ne _ _ hai]; exact hac)
    refine wpAny_bind (wpAny_mono (hturn _ v t.1 (hv.mono t.2)) (fun _ s₃ ⟨m₃, hp₃, r₃, le₃, q⟩ => wpAny_bind ?_) fun _ _ x => x.elim)
    refine wpAny_mono (q s₃ r₃) (fun b s₄ ⟨hp₄, r₄, le₄, q⟩ => ?_) fun _ _ x => x.elim
    cases b with
    | false =>
      rw [if_neg Bool.false_ne_true] at q
      exact wpAny_pure ⟨rfl, n - (i + 1), by omega, i + 1, ys, m₃, hp₄, ob', rfl, hlt, by omega, q.1, q.2.1, q.2.2, hst', r₄, ((le.trans t.2).trans le₃).trans le₄⟩
    | true =>
      rw [if_pos rfl] at q
      refine wpAny_bind (wpAny_bind (wpAny_mono (q s₄ r₄) (fun x s₅ ⟨av, hp₅, r₅, le₅, hx, q⟩ => wpAny_bind ?_) fun _ _ x => x.elim))
      obtain ⟨us, nn, hl, hus⟩ := r₅.at q.2.2 hA
      have e2 : us.size = ys.length := by rw [← Array.length_toList]; exact hus.length
      refine wpAny_list_append_plain (items := us) ⟨nn, hl⟩ (fun h'' hpl hs' => ?_) (by rw [e2]; have := sizeLine_eq; omega)
      obtain ⟨n', hl'⟩ := hpl
      have t₅ := r₅.turn (a := acc) (by rw [Hp.set_ne _ _ hA]; exact q.2.2) hs' (.list (ys ++ [av])) (fun le => ⟨us.push x, n', hl', by rw [Array.toList_push]; exact (hus.mono le).append (VRs.one (hx.mono le))⟩) s₅.toks
      rw [Hp.set_comm _ _ _ (Ne.symm hA)] at t₅
      exact wpAny_pure (wpAny_pure ⟨rfl, n - (i + 1), by omega, i + 1, ys ++ [av], m₃, _, ob', rfl, hlt, by simp; omega, hacc _ _ _ _ _ q.1, by rw [Hp.set_ne _ _ (Ne.symm hai)]; exact q.2.1, Hp.set_same .., hst', t₅.1, ((((le.trans t.2).trans le₃).trans le₄).trans le₅).trans t₅.2⟩)
  · have : i = n := by omega
    subst this
    refine stop ys m₂ hp₂ s' ob hI hob hst r _ _ fun h' t' he => ?_
    obtain ⟨r', le'⟩ := r.drop hob hL he t'
    exact wpAny_pure (hR ys m₂ hp₂ _ hI hac r' (le.trans le'))
theorem Rel.forget {s : Shared} (r : Rel B hp s) {C : Addr} {o : AO} (hC : hp C = some o) {h' : Heap} (hs : Heap.SameBut C s.heap h') (t : Nat) : Rel B (hp.del C) { s with heap := h', toks := t } ∧ ImmLe s.heap h' := by
  have he := hs.extBut
  have le : ImmLe s.heap h' := fun b ob e i => by
    by_cases hb : b = C
    · subst hb; exact absurd i ((r.objs _ _ hC).2.notImm _ e)
    · exact he b ob hb e
  refine ⟨⟨fun b ob e => he b ob (fun hb => ?_) (r.keep b ob e), fun a ob e => ?_, r.os, r.bare, by show _ ≤ h'.objs.size; rw [hs.1]; exact r.size⟩, le⟩
  · subst hb; exact absurd (Heap.lt_size e) (Nat.not_lt.mpr (r.objs _ _ hC).1)
  · by_cases ha : a = C
    · subst ha; simp [Hp.del] at e
    · rw [Hp.del_ne _ ha] at e
      exact ⟨(r.objs a ob e).1, (r.objs a ob e).2.here le fun o' e'' => he _ _ ha e''⟩
theorem EV_CompL {elt target iter : Expr} {ifs : List Expr} {scope : Scope} {pos : Pos} {cl : List (PySem.Str × Addr)} {Q : AV → Hp → Prop} (hh : A.handled = none) (hclos : closureFor scope env = pure cl) (hcell : ∀ y ∈ scope.names, y.2 ≠ .cell) (hnames : ∀ x ∈ scope.names, x.2 = .local → scope.names.lookup x.1 = some .local)
    (h : EV (model prog w) A E B env iter m hp fun o hp₁ => ∃ a xs, o = .ref a ∧ Lst B hp₁ env.locals a xs ∧ xs.length ≤ 1000 ∧ ∀ it acc C, hp₁ it = none → it ≠ env.locals → hp₁ acc = none → acc ≠ env.locals → acc ≠ it → hp₁ C = none → C ≠ env.locals → C ≠ it → C ≠ acc →
      ∃ I : Nat → List AV → Loc → Hp → Prop, (∀ ob, I 0 [] (fun _ => none) (((hp₁.set env.locals (.ns m)).set it (.obj ob)).set acc (.list []))) ∧ (∀ i ys m₂ hp₂ ob, I i ys m₂ hp₂ → I i ys m₂ (hp₂.set it (.obj ob))) ∧ (∀ i ys m₂ hp₂ zs, I i ys m₂ hp₂ → I i ys m₂ (hp₂.set acc (.list zs))) ∧
        (∀ i ys m₂ hp₂, I i ys m₂ hp₂ → Lst B hp₂ C a xs) ∧
        (∀ i x ys m₂ hp₂ ob, xs[i]? = some x → I i ys m₂ hp₂ → hp₂ it = some (.obj ob) → hp₂ acc = some (.list ys) → ASG (model prog w) A (fun _ _ => False) B (compEnvC scope cl C env) target x m₂ hp₂ fun m₃ hp₃ => TSTs (model prog w) A (fun _ _ => False) B (compEnvC scope cl C env) ifs m₃ hp₃ fun b hp₄ =>
          if b then EV (model prog w) A (fun _ _ => False) B (compEnvC scope cl C env) elt m₃ hp₄ fun v hp₅ => I (i + 1) (ys ++ [v]) m₃ hp₅ ∧ hp₅ it = some (.obj ob) ∧ hp₅ acc = some (.list ys)
          else I (i + 1) ys m₃ hp₄ ∧ hp₄ it = some (.obj ob) ∧ hp₄ acc = some (.list ys)) ∧
        (∀ ys m₂ hp₂, I xs.length ys m₂ hp₂ → hp₂ acc = some (.list ys) → ∃ hp₃, Hp.Le (hp₃.set env.locals (.ns m)) (hp₂.del it) ∧ hp₃ C = none ∧ Q (.ref acc) hp₃))
    (hs : ∀ x, foldedSetIterable iter env x = pure x := by intro _; rfl) (hkind : scope.kind = .function := by rfl) :
    EV (model prog w) A E B env (.ListComp elt [⟨target, iter, ifs, 0⟩] scope pos) m hp Q := fun s r => by
  rw [eval_ListComp]
  refine wpAny_comprehension_free (use := none) rfl hs hclos hkind hnames (h.use r fun u s₁ o hp₁ r₁ le₁ hu x => ?_)
  obtain ⟨a, xs, rfl, hl, hlen, x⟩ := x
  simp only [VR] at hu; subst hu
  obtain ⟨vs, hlst, hvs⟩ := r₁.lst hl
  refine wpAny_pyIter_list hlst ?_
  have n := r₁.newAt { cls := .type "list_iterator", data := .fields #[.ref a, .int 0 0] } (.obj { cls := .type "list_iterator", data := .fields #[.ref a, .int 0 0] }) ⟨Heap.get?_push_size _ rfl, fun i => by obtain ⟨_, _, _, e⟩ := i; cases e⟩
  generalize hit : s₁.heap.objs.size = it at *
  have n2 := Rel.newAt n.1 { cls := .type "list", data := .seq #[] } (.list []) ⟨#[], 0, IsL.new _ _, by simp [VRs]⟩
  have le2 : ImmLe s.heap ((s₁.heap.push { cls := .type "list_iterator", data := .fields #[.ref a, .int 0 0] }).push { cls := .type "list", data := .seq #[] }) := (le₁.trans n.2.2.2).trans n2.2.2.2
  refine wpAny_newObj_type ?_
  dsimp only
  have n2c : hp₁.set it (.obj { cls := .type "list_iterator", data := .fields #[.ref a, .int 0 0] }) (s₁.heap.push { cls := .type "list_iterator", data := .fields #[.ref a, .int 0 0] }).objs.size = none := n2.2.1
  have n2d : (s₁.heap.push { cls := .type "list_iterator", data := .fields #[.ref a, .int 0 0] }).objs.size ≠ env.locals := n2.2.2.1
  have n2e := n2.1
  generalize hac : (s₁.heap.push { cls := .type "list_iterator", data := .fields #[.ref a, .int 0 0] }).objs.size = acc at *
  refine wpAny_newFunctionEnv hcell (by intro y hy; simp at hy) (fun h₁ hns₁ hsb₁ => ?_) hkind
  dsimp only at hns₁ hsb₁ ⊢
  have n2f : Rel B (((hp₁.set it (.obj { cls := .type "list_iterator", data := .fields #[.ref a, .int 0 0] })).set acc (.list [])).set env.locals (.ns m)) { s₁ with heap := (s₁.heap.push { cls := .type "list_iterator", data := .fields #[.ref a, .int 0 0] }).push { cls := .type "list", data := .seq #[] } } := n2e
  generalize hH2 : (s₁.heap.push { cls := .type "list_iterator", data := .fields #[.ref a, .int 0 0] }).push { cls := .type "list", data := .seq #[] } = H2 at *
  have hacit : acc ≠ it := fun e => by rw [e, Hp.set_same] at n2c; cases n2c
  have hacp : hp₁ acc = none := by rw [Hp.set_ne _ _ hacit] at n2c; exact n2c
  have fr := n2f.fresh
  have hCe : H2.objs.size ≠ env.locals := fun e => by rw [show ({ s₁ with heap := H2 } : Shared).heap.objs.size = H2.objs.size from rfl, e, Hp.set_same] at fr; cases fr
  rw [show ({ s₁ with heap := H2 } : Shared).heap.objs.size = H2.objs.size from rfl, Hp.set_ne _ _ hCe] at fr
  have hCa : H2.objs.size ≠ acc := fun e => by rw [e, Hp.set_same] at fr; cases fr
  rw [Hp.set_ne _ _ hCa] at fr
  have hCi : H2.objs.size ≠ it := fun e => by rw [e, Hp.set_same] at fr; cases fr
  rw [Hp.set_ne _ _ hCi] at fr
  generalize hC : H2.objs.size = C at *
  have k₀ : ∀ b o, H2.get? b = some o → h₁.get? b = some o := fun b o e => hsb₁.extBut b o (by rw [← hC]; exact Nat.ne_of_lt (Heap.lt_size e)) (Heap.get?_push_of_some _ e)
  obtain ⟨I, i0, iset, iacc, ilst, iturn, ifin⟩ := x it acc C n.2.1 n.2.2.1 hacp n2d hacit fr hCe hCi hCa
  have e1 : ((hp₁.set it (.obj { cls := .type "list_iterator", data := .fields #[.ref a, .int 0 0] })).set acc (.list [])).set env.locals (.ns m) = ((hp₁.set env.locals (.ns m)).set it (.obj { cls := .type "list_iterator", data := .fields #[.ref a, .int 0 0] })).set acc (.list []) := by
    rw [Hp.set_comm _ _ _ n2d, Hp.set_comm _ _ _ n.2.2.1]
  rw [e1] at n2f
  have rel : Rel B ((((hp₁.set env.locals (.ns m)).set it (.obj { cls := .type "list_iterator", data := .fields #[.ref a, .int 0 0] })).set acc (.list [])).set C (.ns fun _ => none)) { s₁ with heap := h₁, toks := s₁.toks + 0 } := by
    refine ⟨fun b o e => k₀ _ _ (n2f.keep b o e), fun z o' e => ?_, n2f.os, n2f.bare, ?_⟩
    · by_cases hz : z = C
      · subst hz
        rw [Hp.set_same] at e
        cases e
        exact ⟨by rw [← hC]; exact n2f.size, _, hns₁, ⟨fun x v e => by simp at e, fun x _ => rfl⟩⟩
      · rw [Hp.set_ne _ _ hz] at e
        exact ⟨(n2f.objs z o' e).1, (n2f.objs z o' e).2.here (ImmLe.keep k₀) fun o'' e => k₀ _ _ e⟩
    · show _ ≤ h₁.objs.size
      rw [hsb₁.1, Heap.size_push]
      exact Nat.le_trans n2f.size (Nat.le_succ _)
  have loop : codeAny (model prog w) A (.compLoop (.ListComp elt [⟨target, iter, ifs, 0⟩] scope pos) 0 (.ref it) (.ref acc) (compEnvC scope cl C env))
      (compPost (model prog w) A E none (fun v s' => ∃ av hp', Rel B (hp'.set env.locals (.ns m)) s' ∧ ImmLe s.heap s'.heap ∧ VR s'.heap av v ∧ Q av hp') (.ref acc) C) { s₁ with heap := h₁, toks := s₁.toks + 0 } := by
    refine Comp_core (n := xs.length) (env := compEnvC scope cl C env) (el := fun i => xs.getD i .none) (st := fun i ob => ob.cls = .type "list_iterator" ∧ ob.data = .fields #[.ref a, .int i 0]) (I := I) (s₀ := s) (Ne.symm hCi) (Ne.symm hCa) hlen (fun i ob x i' => by obtain ⟨_, _, _, e⟩ := i'; rw [x.2] at e; cases e)
      (fun i ys m₂ hp₂ s' ob hi hI hob hst r' E' W k => ?_) (fun ys m₂ hp₂ s' ob hI hob hst r' E' W k => ?_) iset iacc (fun i ys m₂ hp₂ ob hi hI hob hac => iturn i _ ys m₂ hp₂ ob (by simp [List.getD, List.getElem?_eq_getElem hi]) hI hob hac)
      (fun ys m' hp' s' hI hac r' le' => ?_) (i0 _) (by rw [Hp.set_ne _ _ (Ne.symm hacit), Hp.set_same]) (Hp.set_same ..) ⟨rfl, rfl⟩ rel (le2.trans (ImmLe.keep k₀)) (fun _ _ x => ⟨_, x.1, rfl⟩)
    · obtain ⟨vs', hl', hvs'⟩ := r'.lst (ilst _ _ _ _ hI)
      obtain ⟨v, hv, hxv⟩ := hvs'.get (i := i) (x := xs.getD i .none) (by simp [List.getD, List.getElem?_eq_getElem hi])
      have hg : s'.heap.get? it = some ob := (r'.at hob (Ne.symm hCi)).1
      refine wpAny_pyNext_list_item (i := i) ⟨ob, hg, hst.1, hst.2⟩ hl' (by simpa using hv) fun h' hit' hs' => ?_
      obtain ⟨ob', hg', hc', hd'⟩ := hit'
      exact k v h' s'.toks ob' hxv hg' ⟨hc', hd'⟩ hs'
    · obtain ⟨vs', hl', hvs'⟩ := r'.lst (ilst _ _ _ _ hI)
      have hg : s'.heap.get? it = some ob := (r'.at hob (Ne.symm hCi)).1
      refine wpAny_pyNext_list_end hh (i := xs.length) ⟨ob, hg, hst.1, hst.2⟩ hl' ?_ fun h' he => k h' s'.toks he
      have e : vs'.size = xs.length := by rw [← Array.length_toList]; exact hvs'.length
      exact Array.getElem?_eq_none (by omega)
    · obtain ⟨hp₃, hle3, hc3, q⟩ := ifin ys m' hp' hI hac
      obtain ⟨mv, hn, _⟩ := (r'.objs _ _ (Hp.set_same ..)).2
      refine ⟨mv, hn, fun h' hs' => ?_⟩
      have f := r'.forget (Hp.set_same ..) hs' s'.toks
      refine ⟨.ref acc, hp₃, f.1.sub fun z o hz => ?_, le'.trans f.2, VR_ref, q⟩
      have hzC : z ≠ C := fun e => by rw [e, Hp.set_ne _ _ hCe, hc3] at hz; cases hz
      show ((hp'.del it).set C (.ns m')).del C z = some o
      rw [Hp.del_ne _ hzC, Hp.set_ne _ _ hzC]
      exact hle3 _ _ hz
  have hiter : h₁.get? it = some { cls := .type "list_iterator", data := .fields #[.ref a, .int 0 0] } := (rel.objs it (.obj { cls := .type "list_iterator", data := .fields #[.ref a, .int 0 0] }) (by rw [Hp.set_ne _ _ (Ne.symm hCi), Hp.set_ne _ _ (Ne.symm hacit), Hp.set_same])).2.1
  exact codeAny_compStart_list loop (wpAny_pyIter_listiter (s := { s₁ with heap := h₁, toks := s₁.toks + 0 }) ⟨_, hiter, rfl, rfl⟩ loop)
end
end Mine

open PySem PySem.W PyProof.Rows PySem.Calls
set_option maxRecDepth 100000
namespace Mine
section
variable {prog : Program} {w : World} {A : Around} {E : Value → Shared → Prop} {B : Shared} {env : Env} {m : Loc} {hp : Hp} {K : Frag}
theorem EVS.mono {M : Model} {es : List Expr} {Q Q' : List AV → Hp → Prop} (h : EVS M A E B env es m hp Q) (k : ∀ vs hp', Q vs hp' → Q' vs hp') : EVS M A E B env es m hp Q' := fun pos s r =>
  wpAny_mono (h pos s r) (fun _ _ ⟨avs, hp', r', le, hv, q⟩ => ⟨avs, hp', r', le, hv, k _ _ q⟩) fun _ _ x => x
theorem EX_Assign4 {t₁ t₂ t₃ t₄ value : Expr} {pos} {Q : AF → Loc → Hp → Prop}
    (h : EV (model prog w) A E B env value m hp fun v hp₁ => ASG (model prog w) A E B env t₁ v m hp₁ fun m₂ hp₂ => ASG (model prog w) A E B env t₂ v m₂ hp₂ fun m₃ hp₃ => ASG (model prog w) A E B env t₃ v m₃ hp₃ fun m₄ hp₄ => ASG (model prog w) A E B env t₄ v m₄ hp₄ fun m₅ hp₅ => Q .next m₅ hp₅)
    (he : (assignEach [t₁, t₂, t₃, t₄] env).map (·.2) = [assign t₁ env, assign t₂ env, assign t₃ env, assign t₄ env] := by rfl) (hw : swappedStores [t₁, t₂, t₃, t₄] value env = pure none := by rfl) : EX (model prog w) A E B env (.Assign [t₁, t₂, t₃, t₄] value pos) m hp Q := fun s r => by
  refine wpAny_Assign_stores (h.use r fun u s₁ v hp₁ r₁ le₁ hu q => ?_) rfl hw
  rw [he]
  refine wpAny_bind (wpAny_holding (wpAny_mono (q s₁ u r₁ hu) (fun _ s₂ ⟨m₂, hp₂, r₂, le₂, q⟩ => ?_) fun _ _ x => x))
  refine wpAny_bind (wpAny_holding (wpAny_mono (q s₂ u r₂ (hu.mono le₂)) (fun _ s₃ ⟨m₃, hp₃, r₃, le₃, q⟩ => ?_) fun _ _ x => x))
  refine wpAny_bind (wpAny_holding (wpAny_mono (q s₃ u r₃ ((hu.mono le₂).mono le₃)) (fun _ s₄ ⟨m₄, hp₄, r₄, le₄, q⟩ => ?_) fun _ _ x => x))
  exact wpAny_mono (q s₄ u r₄ (((hu.mono le₂).mono le₃).mono le₄)) (fun _ s₅ ⟨m₅, hp₅, r₅, le₅, q⟩ => ⟨.next, m₅, hp₅, r₅, (((le₁.trans le₂).trans le₃).trans le₄).trans le₅, rfl, q⟩) fun _ _ x => x
end
end Mine

open PySem PySem.W PyProof.Rows PySem.Calls
set_option maxRecDepth 100000
namespace Mine
abbrev PW := PySem.Challenge.pw_dm0058_03
abbrev KW (w : World) : Frag := KP PW w.params
def fdBlocks : FuncData := fnD (topS PW 7) (S "_law_blocks") .none .none 0 (.str (S "law_dm0058_03") 592) none (.ref 252) .none []
theorem kBlocks (w : World) : (KW w).lookup 253 = some ⟨.type "function", none, .func fdBlocks, #[]⟩ := rfl
abbrev Blk := Int × Int × Int
def bAV (b : Blk) : AV := .tup [.int b.1, .int b.2.1, .int b.2.2]
abbrev BSt := Int × Int × List Blk
def iabs (x : Int) : Int := if x < 0 then -x else x
def stepB (st : BSt) (k : Nat) (x : Int) : BSt :=
  if k % 3 = 0 then (st.1 + iabs x, st.2.1, st.2.2)
  else if k % 3 = 1 then (st.1, st.2.1 + iabs x, st.2.2)
  else if x = 0 then st
  else
    let last := st.2.2.getLast?.getD (st.1, st.2.1, 0)
    if last.1 + last.2.2 = st.1 ∧ last.2.1 + last.2.2 = st.2.1 then (st.1 + iabs x, st.2.1 + iabs x, (if st.2.2 = [] then [] else st.2.2.dropLast) ++ [(last.1, last.2.1, last.2.2 + iabs x)])
    else (st.1 + iabs x, st.2.1 + iabs x, st.2.2 ++ [(st.1, st.2.1, 0 + iabs x)])
def stB (ns : List Int) : Nat → BSt
  | 0 => (0, 0, [])
  | k + 1 => stepB (stB ns k) k (ns.getD k 0)
theorem stB_len (ns : List Int) : ∀ k, (stB ns k).2.2.length ≤ k
  | 0 => by simp [stB]
  | k + 1 => by
    have ih := stB_len ns k
    simp only [stB, stepB]
    split
    · simp only; omega
    · split
      · simp only; omega
      · split
        · omega
        · split
          · split
            · simp only [List.length_append, List.length_nil, List.length_cons]; omega
            · simp only [List.length_append, List.length_dropLast, List.length_cons, List.length_nil]; omega
          · simp only [List.length_append, List.length_cons, List.length_nil]; omega
def lawB (ns : List Int) : List Blk := (stB ns ns.length).2.2 ++ [((stB ns ns.length).1, (stB ns ns.length).2.1, 0)]
def IB (hpc : Hp) (L it nA : Addr) (ns : List Int) (k : Nat) (m : Loc) (hp : Hp) : Prop :=
  ∃ bA, m (S "numbers") = some (.ref nA) ∧ m (S "blocks") = some (.ref bA) ∧ m (S "i") = some (.int (stB ns k).1) ∧ m (S "j") = some (.int (stB ns k).2.1) ∧
    hpc bA = none ∧ bA ≠ L ∧ bA ≠ it ∧ hp bA = some (.list ((stB ns k).2.2.map bAV)) ∧ Hp.Le hpc hp
theorem IB.set {hpc : Hp} {L it nA : Addr} {ns : List Int} {k : Nat} {m : Loc} {hp : Hp} (h : IB hpc L it nA ns k m hp) (hit : hpc it = none) (ob : Obj) : IB hpc L it nA ns k m (hp.set it (.obj ob)) := by
  obtain ⟨bA, h1, h2, h3, h4, h5, h6, h7, h8, h9⟩ := h
  exact ⟨bA, h1, h2, h3, h4, h5, h6, h7, by rw [Hp.set_ne _ _ h7]; exact h8, h9.set hit _⟩
section
variable {w : World} {A : Around} {E : Value → Shared → Prop} {B : Shared}
theorem blt_abs : bootBuiltins (PySem.Str.ofString "abs") = some (.builtin "abs") := by boot_fast
theorem blt_len : bootBuiltins (PySem.Str.ofString "len") = some (.builtin "len") := by boot_fast
theorem blt_range : bootBuiltins (PySem.Str.ofString "range") = some (.type "range") := by boot_fast
theorem no_abs (w : World) : nsIn (KW w) mainGlobals (S "abs") = some none := by kernel_rfl
theorem no_len (w : World) : nsIn (KW w) mainGlobals (S "len") = some none := by kernel_rfl
theorem no_range (w : World) : nsIn (KW w) mainGlobals (S "range") = some none := by kernel_rfl
theorem num_at {L nA : Addr} {hp : Hp} {m : Loc} {ns : List Int} {k : Nat} {p2 p3 p4 : Pos} {Q : AV → Hp → Prop} (hk : k < ns.length) (hlen : ns.length ≤ 63) (hn : Lst B hp L nA (ns.map .int))
    (h1 : m (S "numbers") = some (.ref nA)) (h2 : m (S "k") = some (.int k)) (h : Q (.int (ns.getD k 0)) hp) :
    EV (model PW w) A E B (callEnv fdBlocks L 253) (.Subscript (.Name (S "numbers") p2) (.Name (S "k") p3) p4) m hp Q := by
  refine EV_Subscript (EV_local h1 (EV_local h2 (SUB_list hn (by omega) (by omega) ?_ h)))
  simp [List.getElem?_eq_getElem hk, List.getD]
theorem abs_num {L nA : Addr} {hp : Hp} {m : Loc} {ns : List Int} {k : Nat} {p1 p2 p3 p4 p5 : Pos} {Q : AV → Hp → Prop} (G : Gnd (KW w) B) (hk : k < ns.length) (hlen : ns.length ≤ 63) (hn : Lst B hp L nA (ns.map .int))
    (h1 : m (S "numbers") = some (.ref nA)) (h2 : m (S "k") = some (.int k)) (h : Q (.int (iabs (ns.getD k 0))) hp) :
    EV (model PW w) A E B (callEnv fdBlocks L 253) (.Call (.Name (S "abs") p1) [.Subscript (.Name (S "numbers") p2) (.Name (S "k") p3) p4] [] p5) m hp Q :=
  EV_CallB (EV_blt G (no_abs w) blt_abs (by decide) (fun _ => VR_bi) ⟨rfl, EVS_cons (num_at hk hlen hn h1 h2 (EVS_nil (CL_abs h)))⟩)
def bD (b : Blk) : PyData := .tuple [.int b.1, .int b.2.1, .int b.2.2]
theorem RDs_blk {hp : Hp} {L : Addr} : ∀ bl : List Blk, RDs B hp L (bl.map bAV) (bl.map bD)
  | [] => .nil
  | _ :: bl => .cons (.tup (.cons (.int _) (.cons (.int _) (.cons (.int _) .nil)))) (RDs_blk bl)
theorem shaped_blk (bl : List Blk) : SeqAt.shaped (.list (bl.map bD)) = true := by
  have h1 : ∀ bl : List Blk, PyData.canLayAll0 (bl.map bD) = true := by
    intro bl; induction bl with
    | nil => rfl
    | cons b bl ih => simp only [List.map_cons, PyData.canLayAll0, ih, Bool.and_true]; rfl
  have h2 : ∀ bl : List Blk, PyData.depthAll (bl.map bD) ≤ 2 := by
    intro bl; induction bl with
    | nil => simp [PyData.depthAll]
    | cons b bl ih =>
      simp only [List.map_cons, PyData.depthAll]
      have : (bD b).depth ≤ 2 := by simp [bD, PyData.depth, PyData.depthAll]
      omega
  simp only [SeqAt.shaped, PyData.canLay0, h1, Bool.true_and, PyData.depth]
  have := h2 bl; exact decide_eq_true (by omega)
theorem blocks_turn {L it nA : Addr} {hpc hp : Hp} {m : Loc} {ns : List Int} {k : Nat} {ob : Obj} (G : Gnd (KW w) B) (hh : A.handled = none) (hu : A.units + 64 < cLine) (hlen : ns.length ≤ 63) (hk : k < ns.length) (hn : Lst B hpc L nA (ns.map .int))
    (I : IB hpc L it nA ns k m hp) (hit : hp it = some (.obj ob)) (hitc : hpc it = none) (hLc : hpc L = none) :
    EXs (model PW w) A (fun _ _ => False) B (callEnv fdBlocks L 253) (match dBody (topS PW 7) with | [_, _, .For _ _ b _ _, _] => b | _ => []) (upd m (S "k") (.int k)) hp
      (fun fl m' hp' => match fl with | .next | .cont => IB hpc L it nA ns (k + 1) m' hp' ∧ hp' it = some (.obj ob) | .brk => False | .ret _ => False) := by
  obtain ⟨bA, h1, h2, h3, h4, h5, h6, h7, h8, h9⟩ := I
  conv => arg 6; whnf
  refine EXs_cons (EX_If (TST_Compare1 (EV_BinOp (EV_local (v := .int k) (by simp only [upd_get, if_true]) (EV_int (OP_mod (by decide) (EV_int (OP_eq (TRU_bool ?_)))))))))
  have e3 : ((k : Int).fmod 3 == 0) = decide (k % 3 = 0) := by
    rw [Int.fmod_eq_emod_of_nonneg _ (by decide)]
    by_cases h : k % 3 = 0
    · simp [h]; omega
    · simp [h]; omega
  have e4 : ((k : Int).fmod 3 == 1) = decide (k % 3 = 1) := by
    rw [Int.fmod_eq_emod_of_nonneg _ (by decide)]
    by_cases h : k % 3 = 1
    · simp [h]; omega
    · simp [h]; omega
  rw [e3]
  have hn' := hn.le h9
  have g1 : upd m (S "k") (.int k) (S "numbers") = some (.ref nA) := by simp only [upd_get, String.reduceEq, if_false, h1]
  have g2 : upd m (S "k") (.int k) (S "blocks") = some (.ref bA) := by simp only [upd_get, String.reduceEq, if_false, h2]
  have g3 : upd m (S "k") (.int k) (S "i") = some (.int (stB ns k).1) := by simp only [upd_get, String.reduceEq, if_false, h3]
  have g4 : upd m (S "k") (.int k) (S "j") = some (.int (stB ns k).2.1) := by simp only [upd_get, String.reduceEq, if_false, h4]
  have g5 : upd m (S "k") (.int k) (S "k") = some (.int k) := by simp only [upd_get, if_true]
  generalize hm : upd m (S "k") (.int k) = m₁ at *
  by_cases hk0 : k % 3 = 0
  · rw [decide_eq_true hk0, if_pos rfl]
    refine EXs_cons (EX_AugAssign g3 (abs_num G hk hlen hn' g1 g5 (OP_iadd ?_)))
    refine EXs_nil (EXs_nil ⟨⟨bA, ?_, ?_, ?_, ?_, h5, h6, h7, ?_, h9⟩, hit⟩)
    · simp only [upd_get, String.reduceEq, if_false, g1]
    · simp only [upd_get, String.reduceEq, if_false, g2]
    · simp only [upd_get, if_true, stB, stepB, hk0]
    · simp only [upd_get, String.reduceEq, if_false, g4, stB, stepB, hk0, if_true]
    · simp only [stB, stepB, hk0, if_true]; exact h8
  · rw [decide_eq_false hk0, if_neg Bool.false_ne_true]
    refine EXs_cons (EX_If (TST_Compare1 (EV_BinOp (EV_local g5 (EV_int (OP_mod (by decide) (EV_int (OP_eq (TRU_bool ?_)))))))))
    rw [e4]
    by_cases hk1 : k % 3 = 1
    · rw [decide_eq_true hk1, if_pos rfl]
      refine EXs_cons (EX_AugAssign g4 (abs_num G hk hlen hn' g1 g5 (OP_iadd ?_)))
      refine EXs_nil (EXs_nil (EXs_nil ⟨⟨bA, ?_, ?_, ?_, ?_, h5, h6, h7, ?_, h9⟩, hit⟩))
      · simp only [upd_get, String.reduceEq, if_false, g1]
      · simp only [upd_get, String.reduceEq, if_false, g2]
      · simp only [upd_get, String.reduceEq, if_false, g3, stB, stepB, hk1, if_true]; rfl
      · simp only [upd_get, if_true, stB, stepB, hk1]; rfl
      · simp only [stB, stepB, hk1, if_true]; exact h8
    · rw [decide_eq_false hk1, if_neg Bool.false_ne_true]
      refine EXs_cons (EX_If (TST_Compare1 (num_at hk hlen hn' g1 g5 (EV_int (OP_ne (TRU_bool ?_))))))
      by_cases hx0 : ns.getD k 0 = 0
      · rw [hx0, if_neg (by decide)]
        refine EXs_nil (EXs_nil (EXs_nil (EXs_nil ⟨⟨bA, g1, g2, ?_, ?_, h5, h6, h7, ?_, h9⟩, hit⟩)))
        · rw [g3]; simp only [stB, stepB, hk0, hk1, hx0, if_true, if_false]
        · rw [g4]; simp only [stB, stepB, hk0, hk1, hx0, if_true, if_false]
        · simp only [stB, stepB, hk0, hk1, hx0, if_true, if_false]; exact h8
      · rw [if_pos (by simpa using hx0)]
        obtain ⟨last, ini, hlast, hini, hstep⟩ : ∃ last ini, last = (stB ns k).2.2.getLast?.getD ((stB ns k).1, (stB ns k).2.1, 0) ∧ pick ((stB ns k).2.2.map bAV) none (some (-1)) = ini.map bAV ∧
            stB ns (k + 1) = (if last.1 + last.2.2 = (stB ns k).1 ∧ last.2.1 + last.2.2 = (stB ns k).2.1 then ((stB ns k).1 + iabs (ns.getD k 0), (stB ns k).2.1 + iabs (ns.getD k 0), ini ++ [(last.1, last.2.1, last.2.2 + iabs (ns.getD k 0))])
              else ((stB ns k).1 + iabs (ns.getD k 0), (stB ns k).2.1 + iabs (ns.getD k 0), (stB ns k).2.2 ++ [((stB ns k).1, (stB ns k).2.1, 0 + iabs (ns.getD k 0))])) := by
          refine ⟨_, (stB ns k).2.2.dropLast, rfl, ?_, ?_⟩
          · simp [pick, clipAt, List.dropLast_eq_take, List.map_take]
            omega
          · simp only [stB, stepB, hk0, hk1, hx0, if_false]
            by_cases hb : (stB ns k).2.2 = []
            · simp [hb]
            · simp [hb]
        refine EXs_seq (fun m₂ hp₂ => m₂ (S "numbers") = some (.ref nA) ∧ m₂ (S "blocks") = some (.ref bA) ∧ m₂ (S "i") = some (.int (stB ns k).1) ∧ m₂ (S "j") = some (.int (stB ns k).2.1) ∧ m₂ (S "k") = some (.int k) ∧
          m₂ (S "p") = some (.int last.1) ∧ m₂ (S "q") = some (.int last.2.1) ∧ m₂ (S "size") = some (.int last.2.2) ∧ Hp.Le hp hp₂ ∧ hp₂ L = hp L) ?_ ?_
        · refine EX_AssignT (EV_IfExp (TST_Compare1 (EV_local g2 (EV_List (EVS_nil ⟨Nat.zero_le _, fun e he heL => ?_⟩)))))
          have hbl : hp.set e (.list []) bA = some (.list ((stB ns k).2.2.map bAV)) := by rw [Hp.set_ne _ _ (Hp.ne_of h8 he)]; exact h8
          have hle : Hp.Le hp (hp.set e (.list [])) := (Hp.Le.refl hp).set he _
          refine OP_neD (.list (.own hbl h6) (RDs_blk _)) (.list (.own (Hp.set_same ..) heL) .nil) (shaped_blk _) rfl hu (TRU_bool ?_)
          have hL' : hp.set e (.list []) L = hp L := Hp.set_ne _ _ (Ne.symm heL)
          rcases List.eq_nil_or_concat (stB ns k).2.2 with hb | ⟨ini', l, hb⟩
          · have hl : last = ((stB ns k).1, (stB ns k).2.1, 0) := by rw [hlast, hb]; rfl
            have : (!(PyData.list (List.map bD (stB ns k).snd.snd)).eqv (PyData.list [])) = false := by rw [hb]; rfl
            rw [this, if_neg Bool.false_ne_true]
            refine EV_Tuple (EVS_cons (EV_local g3 (EVS_cons (EV_local g4 (EVS_cons (EV_int (EVS_nil ⟨sz rfl, ?_⟩)))))))
            refine ASG_Tuple hh rfl rfl rfl (ASGS_cons (ASG_Name (ASGS_cons (ASG_Name (ASGS_cons (ASG_Name (ASGS_nil ?_)))))))
            rw [hl]
            refine ⟨rfl, ?_, ?_, ?_, ?_, ?_, ?_, ?_, ?_, hle, hL'⟩ <;> (first | assumption | (simp only [upd_get, String.reduceEq, if_true, if_false]; done) | (simp only [upd_get, String.reduceEq, if_true, if_false]; first | assumption | rfl))
          · rw [List.concat_eq_append] at hb
            have hl : last = l := by rw [hlast, hb]; simp
            have : (!(PyData.list (List.map bD (stB ns k).snd.snd)).eqv (PyData.list [])) = true := by rw [hb]; cases ini' <;> rfl
            rw [this, if_pos rfl]
            refine EV_Subscript (EV_local g2 (EV_neg (EV_int ⟨_, rfl, SUB_listNeg (x := bAV l) (.own hbl h6) (by decide) (by decide) ?_ ?_ ?_⟩)))
            · rw [hb]; simp; omega
            · rw [hb]
              have : ((-1 : Int) + (((ini' ++ [l]).map bAV).length : Nat)).toNat = ini'.length := by simp; omega
              rw [this]; simp
            refine ASG_Tuple hh rfl rfl rfl (ASGS_cons (ASG_Name (ASGS_cons (ASG_Name (ASGS_cons (ASG_Name (ASGS_nil ?_)))))))
            rw [hl]
            refine ⟨rfl, ?_, ?_, ?_, ?_, ?_, ?_, ?_, ?_, hle, hL'⟩ <;> (first | assumption | (simp only [upd_get, String.reduceEq, if_true, if_false]; done) | (simp only [upd_get, String.reduceEq, if_true, if_false]; first | assumption | rfl))
        · clear g1 g2 g3 g4 g5 hm e3 e4
          rintro m₂ hp₂ ⟨g1, g2, g3, g4, g5, g6, g7, g8, le₂, hL₂⟩
          have hn'' := hn'.le le₂
          have hb₂ := le₂ _ _ h8
          have hi₂ := le₂ _ _ hit
          refine EXs_seq (fun m₃ hp₃ => m₃ (S "numbers") = some (.ref nA) ∧ m₃ (S "i") = some (.int (stB ns k).1) ∧ m₃ (S "j") = some (.int (stB ns k).2.1) ∧ m₃ (S "k") = some (.int k) ∧
            ∃ (b : Blk) (bs : List Blk) (bA' : Addr), m₃ (S "p") = some (.int b.1) ∧ m₃ (S "q") = some (.int b.2.1) ∧ m₃ (S "size") = some (.int b.2.2) ∧ m₃ (S "blocks") = some (.ref bA') ∧
              hp₃ bA' = some (.list (bs.map bAV)) ∧ bs.length ≤ k ∧ hpc bA' = none ∧ bA' ≠ L ∧ bA' ≠ it ∧ Hp.Le hpc hp₃ ∧ hp₃ it = some (.obj ob) ∧
              stB ns (k + 1) = ((stB ns k).1 + iabs (ns.getD k 0), (stB ns k).2.1 + iabs (ns.getD k 0), bs ++ [(b.1, b.2.1, b.2.2 + iabs (ns.getD k 0))])) ?_ ?_
          · refine EX_If ?_
            refine TST_Compare1 ?_
            refine EV_Tuple ?_
            refine EVS_cons ?_
            refine EV_BinOp ?_
            refine EV_local (by (first | assumption | (simp only [upd_get, String.reduceEq, if_true, if_false]; done) | (simp only [upd_get, String.reduceEq, if_true, if_false]; first | assumption | rfl))) ?_
            refine EV_local (by (first | assumption | (simp only [upd_get, String.reduceEq, if_true, if_false]; done) | (simp only [upd_get, String.reduceEq, if_true, if_false]; first | assumption | rfl))) ?_
            refine OP_add ?_
            refine EVS_cons ?_
            refine EV_BinOp ?_
            refine EV_local (by (first | assumption | (simp only [upd_get, String.reduceEq, if_true, if_false]; done) | (simp only [upd_get, String.reduceEq, if_true, if_false]; first | assumption | rfl))) ?_
            refine EV_local (by (first | assumption | (simp only [upd_get, String.reduceEq, if_true, if_false]; done) | (simp only [upd_get, String.reduceEq, if_true, if_false]; first | assumption | rfl))) ?_
            refine OP_add ?_
            refine EVS_nil ?_
            refine ⟨sz rfl, ?_⟩
            refine EV_Tuple ?_
            refine EVS_cons ?_
            refine EV_local (by (first | assumption | (simp only [upd_get, String.reduceEq, if_true, if_false]; done) | (simp only [upd_get, String.reduceEq, if_true, if_false]; first | assumption | rfl))) ?_
            refine EVS_cons ?_
            refine EV_local (by (first | assumption | (simp only [upd_get, String.reduceEq, if_true, if_false]; done) | (simp only [upd_get, String.reduceEq, if_true, if_false]; first | assumption | rfl))) ?_
            refine EVS_nil ?_
            refine ⟨sz rfl, ?_⟩
            refine OP_eqD (.tup (.cons (.int _) (.cons (.int _) .nil))) (.tup (.cons (.int _) (.cons (.int _) .nil))) rfl rfl hu ?_
            refine TRU_bool ?_
            have ee : (PyData.tuple [.int (last.1 + last.2.2), .int (last.2.1 + last.2.2)]).eqv (.tuple [.int (stB ns k).1, .int (stB ns k).2.1]) = decide (last.1 + last.2.2 = (stB ns k).1 ∧ last.2.1 + last.2.2 = (stB ns k).2.1) := by
              simp only [PyData.eqv, PyData.eqvAll, Bool.and_true]
              rw [Bool.decide_and]; rfl
            rw [ee]
            by_cases hc : last.1 + last.2.2 = (stB ns k).1 ∧ last.2.1 + last.2.2 = (stB ns k).2.1
            · rw [decide_eq_true hc, if_pos rfl]
              rw [if_pos hc] at hstep
              have hlb := stB_len ns k
              refine EXs_cons (EX_Assign (EV_Slice (EV_local g2 (EV_neg (EV_int ⟨_, rfl, bA, _, none, some (-1), rfl, .own hb₂ h6, ?_, rfl, rfl, fun bB hbB hbL => EXs_nil ?_⟩)))))
              · rw [List.length_map]; exact sz' (by omega)
              · have hbc : hpc bB = none := (h9.trans le₂).none hbB
                have hlen2 : ini.length ≤ k := by
                  have e : (ini.map bAV).length = ini.length := List.length_map ..
                  rw [← hini] at e
                  have : (pick ((stB ns k).2.2.map bAV) none (some (-1))).length ≤ ((stB ns k).2.2.map bAV).length := by
                    simp only [pick, List.length_take, List.length_drop]; omega
                  rw [List.length_map] at this
                  omega
                refine ⟨rfl, ?_, ?_, ?_, ?_, last, ini, bB, ?_, ?_, ?_, ?_, by rw [Hp.set_same, hini], hlen2, hbc, hbL, (Hp.ne_of hi₂ hbB).symm, (h9.trans le₂).set hbc _, by rw [Hp.set_ne _ _ (Hp.ne_of hi₂ hbB)]; exact hi₂, hstep⟩ <;> (first | assumption | (simp only [upd_get, String.reduceEq, if_true, if_false]; done) | (simp only [upd_get, String.reduceEq, if_true, if_false]; first | assumption | rfl))
            · rw [decide_eq_false hc, if_neg Bool.false_ne_true]
              rw [if_neg hc] at hstep
              have hlb := stB_len ns k
              refine EXs_cons (EX_AssignSw hh (names := [S "p", S "q", S "size"]) ?_)
              refine EV_Tuple ?_
              refine EVS_cons ?_
              refine EV_local (by (first | assumption | (simp only [upd_get, String.reduceEq, if_true, if_false]; done) | (simp only [upd_get, String.reduceEq, if_true, if_false]; first | assumption | rfl))) ?_
              refine EVS_cons ?_
              refine EV_local (by (first | assumption | (simp only [upd_get, String.reduceEq, if_true, if_false]; done) | (simp only [upd_get, String.reduceEq, if_true, if_false]; first | assumption | rfl))) ?_
              refine EVS_cons ?_
              refine EV_int ?_
              refine EVS_nil ?_
              refine ⟨sz rfl, ?_⟩
              refine ⟨_, rfl, rfl, ASGS_bind (ASGS_bind (ASGS_bind (ASGS_nil ?_)))⟩
              refine EXs_nil ?_
              refine ⟨rfl, ?_, ?_, ?_, ?_, (_, _, _), (stB ns k).2.2, bA, ?_, ?_, ?_, ?_, hb₂, hlb, h5, h6, h7, h9.trans le₂, hi₂, hstep⟩ <;> (first | assumption | (simp only [upd_get, String.reduceEq, if_true, if_false]; done) | (simp only [upd_get, String.reduceEq, if_true, if_false]; first | assumption | rfl))
          · rintro m₃ hp₃ ⟨f1, f2, f3, f4, b, bs, bA', f5, f6, f7, f8, f9, f10, f11, f12, f13, f14, f15, f16⟩
            have hn₃ := hn.le f14
            refine EXs_cons (EX_Expr (EV_append (EV_local f8 ⟨bA', _, rfl, f9, f12, ?_⟩)))
            refine EVS_cons ?_
            refine EV_Tuple ?_
            refine EVS_cons ?_
            refine EV_local (by (first | assumption | (simp only [upd_get, String.reduceEq, if_true, if_false]; done) | (simp only [upd_get, String.reduceEq, if_true, if_false]; first | assumption | rfl))) ?_
            refine EVS_cons ?_
            refine EV_local (by (first | assumption | (simp only [upd_get, String.reduceEq, if_true, if_false]; done) | (simp only [upd_get, String.reduceEq, if_true, if_false]; first | assumption | rfl))) ?_
            refine EVS_cons ?_
            refine EV_BinOp ?_
            refine EV_local (by (first | assumption | (simp only [upd_get, String.reduceEq, if_true, if_false]; done) | (simp only [upd_get, String.reduceEq, if_true, if_false]; first | assumption | rfl))) ?_
            refine abs_num G hk hlen hn₃ f1 f4 ?_
            refine OP_add ?_
            refine EVS_nil ?_
            refine ⟨sz rfl, ?_⟩
            refine EVS_nil ?_
            refine ⟨bs.map bAV, _, rfl, f9, by rw [List.length_map]; exact sz' (by omega), (by simp), (by simp), (by simp), ?_⟩
            have hle : Hp.Le hpc (hp₃.set bA' (.list (bs.map bAV ++ [.tup [.int b.1, .int b.2.1, .int (b.2.2 + iabs (ns.getD k 0))]]))) := f14.set f11 _
            have hn₄ := hn.le hle
            refine EXs_cons (EX_AssignSw hh (names := [S "i", S "j"]) ?_)
            refine EV_Tuple ?_
            refine EVS_cons ?_
            refine EV_BinOp ?_
            refine EV_local (by (first | assumption | (simp only [upd_get, String.reduceEq, if_true, if_false]; done) | (simp only [upd_get, String.reduceEq, if_true, if_false]; first | assumption | rfl))) ?_
            refine abs_num G hk hlen hn₄ f1 f4 ?_
            refine OP_add ?_
            refine EVS_cons ?_
            refine EV_BinOp ?_
            refine EV_local (by (first | assumption | (simp only [upd_get, String.reduceEq, if_true, if_false]; done) | (simp only [upd_get, String.reduceEq, if_true, if_false]; first | assumption | rfl))) ?_
            refine abs_num G hk hlen hn₄ f1 f4 ?_
            refine OP_add ?_
            refine EVS_nil ?_
            refine ⟨sz rfl, ?_⟩
            refine ⟨_, rfl, rfl, ASGS_bind (ASGS_bind (ASGS_nil ?_))⟩
            refine EXs_nil ?_
            refine EXs_nil ?_
            refine EXs_nil ?_
            refine EXs_nil ?_
            refine ⟨⟨bA', ?_, ?_, ?_, ?_, f11, f12, f13, ?_, hle⟩, by rw [Hp.set_ne _ _ (Ne.symm f13)]; exact f15⟩
            · (first | assumption | (simp only [upd_get, String.reduceEq, if_true, if_false]; done) | (simp only [upd_get, String.reduceEq, if_true, if_false]; first | assumption | rfl))
            · (first | assumption | (simp only [upd_get, String.reduceEq, if_true, if_false]; done) | (simp only [upd_get, String.reduceEq, if_true, if_false]; first | assumption | rfl))
            · rw [f16]; (first | assumption | (simp only [upd_get, String.reduceEq, if_true, if_false]; done) | (simp only [upd_get, String.reduceEq, if_true, if_false]; first | assumption | rfl))
            · rw [f16]; (first | assumption | (simp only [upd_get, String.reduceEq, if_true, if_false]; done) | (simp only [upd_get, String.reduceEq, if_true, if_false]; first | assumption | rfl))
            · rw [Hp.set_same, f16]; simp [bAV]
end
end Mine

open PySem PySem.W PyProof.Rows PySem.Calls
set_option maxRecDepth 100000
namespace Mine
section
variable {w : World} {A : Around} {E : Value → Shared → Prop} {B : Shared} {env : Env} {m : Loc} {hp : Hp}
theorem CL_blocks {nA : Addr} {ns : List Int} {Q : AV → Hp → Prop} (G : Gnd (KW w) B) (hh : A.handled = none) (hu : A.units + 70 < cLine) (hroom : A.depth < recursionLimit) (hlen : ns.length ≤ 63) (hn : Lst B hp env.locals nA (ns.map .int))
    (h : ∀ a, hp a = none → a ≠ env.locals → Q (.ref a) (hp.set a (.list ((lawB ns).map bAV)))) : CL (model PW w) A E B env (.ref 253) m [.ref nA] hp Q := by
  refine CL_def (bs := [(S "numbers", .ref nA)]) (body := dBody (topS PW 7)) G (kBlocks w) rfl (by kernel_rfl) rfl hroom (fun s vs hv _ => ?_) (by kernel_rfl) (by decide) (fun L hL hLe => ?_)
  · obtain ⟨v, rfl, h1⟩ := VRs_one hv
    exact ⟨[(S "numbers", v)], BindsTo.of_eq rfl, rfl, VRs.one h1⟩
  · have hn' : Lst B (hp.set env.locals (.ns m)) L nA (ns.map .int) := hn.call hL
    have hLc : (hp.set env.locals (.ns m)) L = none := by rw [Hp.set_ne _ _ hLe]; exact hL
    generalize hhc : hp.set env.locals (.ns m) = hpc at *
    conv => arg 6; whnf
    refine EXs_cons (EX_Assign (EV_List (EVS_nil ⟨sz rfl, fun bA hbA hbL => ?_⟩)))
    refine EXs_cons (EX_Assign2 (EV_int (ASG_Name (ASG_Name ?_))))
    have hn1 : Lst B (hpc.set bA (.list [])) L nA (ns.map .int) := hn'.le ((Hp.Le.refl _).set hbA _)
    refine EXs_seq (fun m' hp' => ∃ bA, m' (S "blocks") = some (.ref bA) ∧ m' (S "i") = some (.int (stB ns ns.length).1) ∧ m' (S "j") = some (.int (stB ns ns.length).2.1) ∧
      hpc bA = none ∧ bA ≠ L ∧ hp' bA = some (.list ((stB ns ns.length).2.2.map bAV)) ∧ Hp.Le hpc hp') ?_ ?_
    · refine EX_ForR hh ?_
      refine EV_CallT (EV_blt G (no_range w) blt_range (by decide) (fun _ => VR_ty) ⟨rfl, EVS_cons ?_⟩)
      refine EV_CallB (EV_blt G (no_len w) blt_len (by decide) (fun _ => VR_bi) ⟨rfl, EVS_cons (EV_local (v := .ref nA) (by simp only [upd_get, String.reduceEq, if_false, locOf_get, if_true]) (EVS_nil (CL_len hn1 (by rw [List.length_map]; exact sz' (by omega)) (EVS_nil (CL_range1 fun r ob hr hrL ro => ?_)))))⟩)
      refine ⟨r, ob, 0, _, rfl, Hp.set_same .., hrL, ro, by decide, by decide, by rw [List.length_map]; omega, by rw [List.length_map]; omega, fun it hit hitL => ?_⟩
      have hle1 : Hp.Le hpc ((hpc.set bA (.list [])).set r (.obj ob)) := ((Hp.Le.refl _).set hbA _).set (((Hp.Le.refl hpc).set hbA _).none hr) _
      have hitc : hpc it = none := hle1.none hit
      have hbr : bA ≠ r := Hp.ne_of (Hp.set_same ..) hr
      have hb1 : (hpc.set bA (.list [])).set r (.obj ob) bA = some (.list []) := by rw [Hp.set_ne _ _ hbr, Hp.set_same]
      have hbit : bA ≠ it := Hp.ne_of hb1 hit
      have hlen' : ((((ns.map AV.int).length : Nat) : Int) - 0).toNat = ns.length := by rw [List.length_map]; omega
      rw [hlen']
      refine ⟨IB hpc L it nA ns, fun ob' => ?_, fun i m₂ hp₂ ob' x => x.set hitc ob', fun i m₂ hp₂ ob' hi x hob => ?_, fun m₂ hp₂ x => ?_⟩
      · refine ⟨bA, ?_, ?_, ?_, ?_, hbA, hbL, hbit, by rw [Hp.set_ne _ _ hbit]; exact hb1, hle1.set hitc _⟩
        · simp only [upd_get, String.reduceEq, if_false, locOf_get, if_true]
        · (first | assumption | (simp only [upd_get, String.reduceEq, if_true, if_false]; done) | (simp only [upd_get, String.reduceEq, if_true, if_false]; first | assumption | rfl))
        · (first | assumption | (simp only [upd_get, String.reduceEq, if_true, if_false]; done) | (simp only [upd_get, String.reduceEq, if_true, if_false]; first | assumption | rfl))
        · (first | assumption | (simp only [upd_get, String.reduceEq, if_true, if_false]; done) | (simp only [upd_get, String.reduceEq, if_true, if_false]; first | assumption | rfl))
      · refine ASG_Name ?_
        rw [Int.zero_add]
        refine (blocks_turn (A := A.deeper (callEnv fdBlocks L 253)) G hh (by show A.units + 3 + 64 < cLine; omega) hlen hi hn' x hob hitc hLc).mono ?_
        intro f m₃ hp₃ hq
        cases f <;> first | exact hq | exact hq.elim
      · obtain ⟨bA', h1, h2, h3, h4, h5, h6, h7, h8, h9⟩ := x
        exact ⟨rfl, bA', h2, h3, h4, h5, h6, by rw [Hp.del_ne _ h7]; exact h8, h9.del hitc⟩
    · rintro m₁ hp₁ ⟨bA', h2, h3, h4, h5, h6, h8, h9⟩
      refine EXs_cons (EX_Return (EV_BinOp (EV_local h2 (EV_List ?_))))
      refine EVS_cons ?_
      refine EV_Tuple ?_
      refine EVS_cons ?_
      refine EV_local (by (first | assumption | (simp only [upd_get, String.reduceEq, if_true, if_false]; done) | (simp only [upd_get, String.reduceEq, if_true, if_false]; first | assumption | rfl))) ?_
      refine EVS_cons ?_
      refine EV_local (by (first | assumption | (simp only [upd_get, String.reduceEq, if_true, if_false]; done) | (simp only [upd_get, String.reduceEq, if_true, if_false]; first | assumption | rfl))) ?_
      refine EVS_cons ?_
      refine EV_int ?_
      refine EVS_nil ?_
      refine ⟨sz rfl, ?_⟩
      refine EVS_nil ?_
      refine ⟨sz rfl, ?_⟩
      intro c hc hcL
      have hcb : bA' ≠ c := Hp.ne_of h8 hc
      have hlb := stB_len ns ns.length
      refine OP_addL (by rw [Hp.set_ne _ _ hcb]; exact h8) h6 (Hp.set_same ..) hcL (by rw [List.length_map]; exact sz' (by simp; omega)) fun d hd hdL => ?_
      have hdc : hpc d = none := (h9.set (h9.none hc) _).none hd
      subst hhc
      have hdE : d ≠ env.locals := fun e => by rw [e, Hp.set_same] at hdc; cases hdc
      refine ⟨hp.set d (.list ((lawB ns).map bAV)), fun a o ha => ?_, h d (by rw [Hp.set_ne _ _ hdE] at hdc; exact hdc) hdE⟩
      rw [Hp.set_comm _ _ _ hdE] at ha
      by_cases had : a = d
      · subst had
        rw [Hp.set_same] at ha ⊢
        refine ⟨?_, hdL⟩
        rw [← ha]; simp [lawB, bAV]
      · rw [Hp.set_ne _ _ had] at ha ⊢
        have hac : a ≠ c := fun e => by rw [e, h9.none hc] at ha; cases ha
        exact ⟨by rw [Hp.set_ne _ _ hac]; exact h9 _ _ ha, fun e => by rw [e, hLc] at ha; cases ha⟩
end
end Mine

open PySem PySem.W PyProof.Rows PySem.Calls
set_option maxRecDepth 100000
namespace Mine
abbrev mS (i : Nat) : Stmt := inS (topS PW 5) i
abbrev fdS (i : Nat) (name : String) (dflt : Value) (tok code : Nat) : FuncData := fnD (mS i) (S name) dflt .none tok (.str (S "cpy313.difflib") 194) none (.ref code) .none []
def fdInit : FuncData := fdS 1 "SequenceMatcher.__init__" (.ref 153) 416 159
def fdSeqs : FuncData := fdS 2 "SequenceMatcher.set_seqs" .none 426 166
def fdSeq1 : FuncData := fdS 3 "SequenceMatcher.set_seq1" .none 435 173
def fdSeq2 : FuncData := fdS 4 "SequenceMatcher.set_seq2" .none 444 180
def fdChain : FuncData := fdS 5 "SequenceMatcher.__chain_b" .none 0 187
def fdCodes : FuncData := fdS 8 "SequenceMatcher.get_opcodes" .none 532 209
def fdMB : FuncData := fdS 7 "SequenceMatcher.get_matching_blocks" .none 517 202
def fdGrp : FuncData := fdS 9 "SequenceMatcher.get_grouped_opcodes" (.ref 211) 550 217
theorem kInit (w : World) : (KW w).lookup 160 = some ⟨.type "function", none, .func fdInit, #[]⟩ := rfl
theorem kSeqs (w : World) : (KW w).lookup 167 = some ⟨.type "function", none, .func fdSeqs, #[]⟩ := rfl
theorem kSeq1 (w : World) : (KW w).lookup 174 = some ⟨.type "function", none, .func fdSeq1, #[]⟩ := rfl
theorem kSeq2 (w : World) : (KW w).lookup 181 = some ⟨.type "function", none, .func fdSeq2, #[]⟩ := rfl
theorem kChain (w : World) : (KW w).lookup 188 = some ⟨.type "function", none, .func fdChain, #[]⟩ := rfl
theorem kCodes (w : World) : (KW w).lookup 210 = some ⟨.type "function", none, .func fdCodes, #[]⟩ := rfl
theorem kMB (w : World) : (KW w).lookup 203 = some ⟨.type "function", none, .func fdMB, #[]⟩ := rfl
theorem kGrp (w : World) : (KW w).lookup 218 = some ⟨.type "function", none, .func fdGrp, #[]⟩ := rfl
theorem clsS (w : World) : Cls (KW w) 242 := ⟨by kernel_rfl, by kernel_rfl, by kernel_rfl, by kernel_rfl, by kernel_rfl⟩
theorem makesS (w : World) : makesIn (KW w) 242 = true := by kernel_rfl
def notIn (K : Frag) (n : PySem.Str) : Bool := findIn K (.ref 242) n == some none
theorem noAttrs (w : World) : attrNames.all (fun n => findIn (KW w) (.ref 242) n == some none && takerIn (KW w) 242 n == some none) = true := by kernel_rfl
theorem noAttr (w : World) {n : PySem.Str} (h : n ∈ attrNames) : findIn (KW w) (.ref 242) n = some none := by
  have := List.all_eq_true.mp (noAttrs w) n h
  rw [Bool.and_eq_true] at this
  exact eq_of_beq this.1
theorem noTaker (w : World) {n : PySem.Str} (h : n ∈ attrNames) : takerIn (KW w) 242 n = some none := by
  have := List.all_eq_true.mp (noAttrs w) n h
  rw [Bool.and_eq_true] at this
  exact eq_of_beq this.2
theorem blt_set : bootBuiltins (PySem.Str.ofString "set") = some (.type "set") := by boot_fast
theorem blt_enum : bootBuiltins (PySem.Str.ofString "enumerate") = some (.type "enumerate") := by boot_fast
theorem no_set (w : World) : nsIn (KW w) mainGlobals (S "set") = some none := by kernel_rfl
theorem no_enum (w : World) : nsIn (KW w) mainGlobals (S "enumerate") = some none := by kernel_rfl
section
variable {w : World} {A : Around} {E : Value → Shared → Prop} {B : Shared} {env : Env} {m : Loc} {hp : Hp}
theorem EV_self {x dx : Addr} {ma : Loc} {name : PySem.Str} {u : AV} {p1 p2 : Pos} {Q : AV → Hp → Prop} (G : Gnd (KW w) B) (hm : m (S "self") = some (.ref x)) (I : Ins hp env.locals x dx 242 ma) (ha : ma name = some u) (h : Q u hp) (hin : name ∈ attrNames := by (unfold attrNames; first | exact .head _ | exact .tail _ (.head _) | exact .tail _ (.tail _ (.head _)) | exact .tail _ (.tail _ (.tail _ (.head _))) | exact .tail _ (.tail _ (.tail _ (.tail _ (.head _)))) | exact .tail _ (.tail _ (.tail _ (.tail _ (.tail _ (.head _))))) | exact .tail _ (.tail _ (.tail _ (.tail _ (.tail _ (.tail _ (.head _)))))) | exact .tail _ (.tail _ (.tail _ (.tail _ (.tail _ (.tail _ (.tail _ (.head _))))))) | exact .tail _ (.tail _ (.tail _ (.tail _ (.tail _ (.tail _ (.tail _ (.tail _ (.head _)))))))) | exact .tail _ (.tail _ (.tail _ (.tail _ (.tail _ (.tail _ (.tail _ (.tail _ (.tail _ (.head _))))))))))) (hu : ∀ n, u ≠ .bi n := by intro _ e; cases e)
    (hk : env.scope.kind = .function := by rfl) (hl : env.kindOf (S "self") = some .local := by rfl) : EV (model PW w) A E B env (.Attribute (.Name (S "self") p1) name p2) m hp Q :=
  EV_attr G (clsS w) (noAttr w hin) (EV_local hm ⟨x, dx, ma, u, rfl, I, ha, hu, h⟩ hk hl)
theorem ASG_self {x dx : Addr} {ma : Loc} {name : PySem.Str} {u : AV} {p1 p2 : Pos} {Q : Loc → Hp → Prop} (G : Gnd (KW w) B) (hm : m (S "self") = some (.ref x)) (I : Ins hp env.locals x dx 242 ma) (h : Q m (hp.set dx (.atr (upd ma name u)))) (hin : name ∈ attrNames := by (unfold attrNames; first | exact .head _ | exact .tail _ (.head _) | exact .tail _ (.tail _ (.head _)) | exact .tail _ (.tail _ (.tail _ (.head _))) | exact .tail _ (.tail _ (.tail _ (.tail _ (.head _)))) | exact .tail _ (.tail _ (.tail _ (.tail _ (.tail _ (.head _))))) | exact .tail _ (.tail _ (.tail _ (.tail _ (.tail _ (.tail _ (.head _)))))) | exact .tail _ (.tail _ (.tail _ (.tail _ (.tail _ (.tail _ (.tail _ (.head _))))))) | exact .tail _ (.tail _ (.tail _ (.tail _ (.tail _ (.tail _ (.tail _ (.tail _ (.head _)))))))) | exact .tail _ (.tail _ (.tail _ (.tail _ (.tail _ (.tail _ (.tail _ (.tail _ (.tail _ (.head _)))))))))))
    (hk : env.scope.kind = .function := by rfl) (hl : env.kindOf (S "self") = some .local := by rfl) : ASG (model PW w) A E B env (.Attribute (.Name (S "self") p1) name p2) u m hp Q :=
  ASG_attr G (clsS w) (noTaker w hin) hin (EV_local hm ⟨x, dx, ma, rfl, I, h⟩ hk hl)
theorem CL_chain {x dx bA : Addr} {ma : Loc} {Q : AV → Hp → Prop} (G : Gnd (KW w) B) (hh : A.handled = none) (hroom : A.depth < recursionLimit) (I : Ins hp env.locals x dx 242 ma) (hb : ma (S "b") = some (.ref bA)) (hl : Lst B hp env.locals bA [])
    (hj : ma (S "isjunk") = some .none) (ha : ma (S "autojunk") = some (.bool true))
    (h : ∀ u1 u2 u3, Q .none (hp.set dx (.atr (upd (upd (upd ma (S "b2j") u1) (S "bjunk") u2) (S "bpopular") u3)))) : CL (model PW w) A E B env (.ref 188) m [.ref x] hp Q := by
  refine CD.cl (CD_fn (bs := [(S "self", .ref x)]) (body := dBody (mS 5)) G (kChain w) (by kernel_rfl) rfl hroom (fun s vs hv _ => ?_) (by kernel_rfl) (by decide) (fun L hL hLe => ?_))
  · obtain ⟨v, rfl, h1⟩ := VRs_one hv
    exact ⟨[(S "self", v)], BindsTo.of_eq rfl, rfl, VRs.one h1⟩
  · have hl' : Lst B (hp.set env.locals (.ns m)) L bA [] := hl.call hL
    have I' : Ins (hp.set env.locals (.ns m)) L x dx 242 ma := I.call hL
    have g0 : locOf [(S "self", AV.ref x)] (S "self") = some (.ref x) := by simp only [locOf_get, if_true]
    generalize hm0 : locOf [(S "self", AV.ref x)] = m0 at *
    conv => arg 6; whnf
    have hdl : ∀ ys, (hp.set env.locals (.ns m)) dx ≠ some (.list ys) := fun ys e => by rw [I'.at_] at e; cases e
    refine EXs_cons (EX_Assign (EV_self G g0 I' hb ?_))
    refine EXs_cons (EX_Assign2 (EV_dict0 fun a1 ha1 ha1L => ASG_self G (by (first | assumption | (simp only [upd_get, String.reduceEq, if_true, if_false]; done) | (simp only [upd_get, String.reduceEq, if_true, if_false]; first | assumption | rfl))) I' (ASG_Name ?_)))
    have I1 := I'.put (ma' := upd ma (S "b2j") (.ref a1))
    refine EXs_cons (EX_ForEnumNil hh (EV_blt G (no_enum w) blt_enum (by decide) (fun _ => VR_ty) ⟨rfl, EVS_cons (EV_local (by (first | assumption | (simp only [upd_get, String.reduceEq, if_true, if_false]; done) | (simp only [upd_get, String.reduceEq, if_true, if_false]; first | assumption | rfl))) (EVS_nil ⟨bA, rfl, hl'.put hdl, ?_⟩))⟩))
    refine EXs_cons (EX_Assign2 (EV_set0 (EV_blt G (no_set w) blt_set (by decide) (fun _ => VR_ty) ⟨rfl, fun a2 ha2 ha2L => ASG_self G (by (first | assumption | (simp only [upd_get, String.reduceEq, if_true, if_false]; done) | (simp only [upd_get, String.reduceEq, if_true, if_false]; first | assumption | rfl))) I1 (ASG_Name ?_)⟩)))
    rw [Hp.set_set]
    have I2 := I'.put (ma' := upd (upd ma (S "b2j") (.ref a1)) (S "bjunk") (.ref a2))
    refine EXs_cons (EX_Assign (EV_self G (by (first | assumption | (simp only [upd_get, String.reduceEq, if_true, if_false]; done) | (simp only [upd_get, String.reduceEq, if_true, if_false]; first | assumption | rfl))) I2 (by (first | assumption | (simp only [upd_get, String.reduceEq, if_true, if_false]; done) | (simp only [upd_get, String.reduceEq, if_true, if_false]; first | assumption | rfl))) ?_))
    refine EXs_cons ?_
    refine EX_If ?_
    refine TST_value ?_
    refine EV_local (by (first | assumption | (simp only [upd_get, String.reduceEq, if_true, if_false]; done) | (simp only [upd_get, String.reduceEq, if_true, if_false]; first | assumption | rfl))) ?_
    refine TRU_none ?_
    rw [if_neg Bool.false_ne_true]
    refine EXs_nil ?_
    refine EXs_cons ?_
    refine EX_Assign2 (EV_set0 (EV_blt G (no_set w) blt_set (by decide) (fun _ => VR_ty) ⟨rfl, fun a3 ha3 ha3L => ASG_self G (by (first | assumption | (simp only [upd_get, String.reduceEq, if_true, if_false]; done) | (simp only [upd_get, String.reduceEq, if_true, if_false]; first | assumption | rfl))) I2 (ASG_Name ?_)⟩))
    rw [Hp.set_set]
    have I3 := I'.put (ma' := upd (upd (upd ma (S "b2j") (.ref a1)) (S "bjunk") (.ref a2)) (S "bpopular") (.ref a3))
    refine EXs_cons ?_
    refine EX_Assign ?_
    refine EV_CallB (EV_blt G (no_len w) blt_len (by decide) (fun _ => VR_bi) ⟨rfl, EVS_cons (EV_local (by (first | assumption | (simp only [upd_get, String.reduceEq, if_true, if_false]; done) | (simp only [upd_get, String.reduceEq, if_true, if_false]; first | assumption | rfl))) (EVS_nil (CL_len (hl'.put hdl) (Nat.zero_le _) ?_)))⟩)
    refine EXs_cons ?_
    refine EX_If ?_
    refine TST_BoolOp ?_
    refine ALLT_And_cons ?_
    refine TST_value ?_
    refine EV_self G (by (first | assumption | (simp only [upd_get, String.reduceEq, if_true, if_false]; done) | (simp only [upd_get, String.reduceEq, if_true, if_false]; first | assumption | rfl))) I3 (by (first | assumption | (simp only [upd_get, String.reduceEq, if_true, if_false]; done) | (simp only [upd_get, String.reduceEq, if_true, if_false]; first | assumption | rfl))) ?_
    refine TRU_bool ?_
    rw [if_pos rfl]
    refine ALLT_And_cons ?_
    refine TST_Compare1 ?_
    refine EV_local (by (first | assumption | (simp only [upd_get, String.reduceEq, if_true, if_false]; done) | (simp only [upd_get, String.reduceEq, if_true, if_false]; first | assumption | rfl))) ?_
    refine EV_int ?_
    refine OP_ge ?_
    refine TRU_bool ?_
    rw [if_neg (by decide), if_neg (by decide)]
    refine EXs_nil ?_
    refine EXs_nil ?_
    exact ret_put hL I.dL I'.dL (h _ _ _)
theorem CL_seq1 {x dx aA : Addr} {ma : Loc} {Q : AV → Hp → Prop} (G : Gnd (KW w) B) (hroom : A.depth < recursionLimit) (I : Ins hp env.locals x dx 242 ma) (ha : ma (S "a") = some .none)
    (h : Q .none (hp.set dx (.atr (upd (upd (upd ma (S "a") (.ref aA)) (S "matching_blocks") .none) (S "opcodes") .none)))) : CL (model PW w) A E B env (.ref 174) m [.ref x, .ref aA] hp Q := by
  refine CD.cl (CD_fn (bs := [(S "a", .ref aA), (S "self", .ref x)]) (body := dBody (mS 3)) G (kSeq1 w) (by kernel_rfl) rfl hroom (fun s vs hv _ => ?_) (by kernel_rfl) (by decide) (fun L hL hLe => ?_))
  · obtain ⟨v, u, rfl, h1, h2⟩ := VRs_two hv
    exact ⟨[(S "self", v), (S "a", u)], BindsTo.of_eq rfl, rfl, by simp only [List.reverse_cons, List.reverse_nil, List.nil_append, List.cons_append, List.map_cons, List.map_nil, VRs]; exact ⟨_, _, rfl, h2, _, _, rfl, h1, rfl⟩⟩
  · have I' : Ins (hp.set env.locals (.ns m)) L x dx 242 ma := I.call hL
    have g0 : locOf [(S "a", AV.ref aA), (S "self", AV.ref x)] (S "self") = some (.ref x) := by simp only [locOf_get, String.reduceEq, if_false, if_true]
    have g1 : locOf [(S "a", AV.ref aA), (S "self", AV.ref x)] (S "a") = some (.ref aA) := by simp only [locOf_get, if_true]
    generalize hm0 : locOf [(S "a", AV.ref aA), (S "self", AV.ref x)] = m0 at *
    conv => arg 6; whnf
    refine EXs_cons (EX_doc ?_)
    refine EXs_cons ?_
    refine EX_If ?_
    refine TST_Compare1 ?_
    refine EV_local (by (first | assumption | (simp only [upd_get, String.reduceEq, if_true, if_false]; done) | (simp only [upd_get, String.reduceEq, if_true, if_false]; first | assumption | rfl))) ?_
    refine EV_self G (by (first | assumption | (simp only [upd_get, String.reduceEq, if_true, if_false]; done) | (simp only [upd_get, String.reduceEq, if_true, if_false]; first | assumption | rfl))) I' ha ?_
    refine OP_isNone ?_
    refine TRU_bool ?_
    rw [show AV.isNone (.ref aA) = false from rfl, if_neg Bool.false_ne_true]
    refine EXs_nil ?_
    refine EXs_cons ?_
    refine EX_AssignA (EV_local g1 (ASG_self G g0 I' ?_))
    have I1 := I'.put (ma' := upd ma (S "a") (.ref aA))
    refine EXs_cons (EX_Assign2 (EV_none (ASG_self G g0 I1 ?_)))
    rw [Hp.set_set]
    have I2 := I'.put (ma' := upd (upd ma (S "a") (.ref aA)) (S "matching_blocks") .none)
    refine ASG_self G g0 I2 ?_
    rw [Hp.set_set]
    refine EXs_nil ?_
    exact ret_put hL I.dL I'.dL h
theorem CL_seq2 {x dx bA : Addr} {ma : Loc} {Q : AV → Hp → Prop} (G : Gnd (KW w) B) (hh : A.handled = none) (hroom : A.depth + 1 < recursionLimit) (I : Ins hp env.locals x dx 242 ma) (hb : ma (S "b") = some .none) (hl : Lst B hp env.locals bA [])
    (hj : ma (S "isjunk") = some .none) (ha : ma (S "autojunk") = some (.bool true)) (hc : ma (S "_SequenceMatcher__chain_b") = none)
    (h : ∀ u1 u2 u3, Q .none (hp.set dx (.atr (upd (upd (upd (upd (upd (upd (upd ma (S "b") (.ref bA)) (S "matching_blocks") .none) (S "opcodes") .none) (S "fullbcount") .none) (S "b2j") u1) (S "bjunk") u2) (S "bpopular") u3)))) :
    CL (model PW w) A E B env (.ref 181) m [.ref x, .ref bA] hp Q := by
  refine CD.cl (CD_fn (bs := [(S "b", .ref bA), (S "self", .ref x)]) (body := dBody (mS 4)) G (kSeq2 w) (by kernel_rfl) rfl (by omega) (fun s vs hv _ => ?_) (by kernel_rfl) (by decide) (fun L hL hLe => ?_))
  · obtain ⟨v, u, rfl, h1, h2⟩ := VRs_two hv
    exact ⟨[(S "self", v), (S "b", u)], BindsTo.of_eq rfl, rfl, by simp only [List.reverse_cons, List.reverse_nil, List.nil_append, List.cons_append, List.map_cons, List.map_nil, VRs]; exact ⟨_, _, rfl, h2, _, _, rfl, h1, rfl⟩⟩
  · have I' : Ins (hp.set env.locals (.ns m)) L x dx 242 ma := I.call hL
    have hl' : Lst B (hp.set env.locals (.ns m)) L bA [] := hl.call hL
    have hdl : ∀ ys, (hp.set env.locals (.ns m)) dx ≠ some (.list ys) := fun ys e => by rw [I'.at_] at e; cases e
    have g0 : locOf [(S "b", AV.ref bA), (S "self", AV.ref x)] (S "self") = some (.ref x) := by simp only [locOf_get, String.reduceEq, if_false, if_true]
    have g1 : locOf [(S "b", AV.ref bA), (S "self", AV.ref x)] (S "b") = some (.ref bA) := by simp only [locOf_get, if_true]
    generalize hm0 : locOf [(S "b", AV.ref bA), (S "self", AV.ref x)] = m0 at *
    conv => arg 6; whnf
    refine EXs_cons (EX_doc ?_)
    refine EXs_cons ?_
    refine EX_If ?_
    refine TST_Compare1 ?_
    refine EV_local (by (first | assumption | (simp only [upd_get, String.reduceEq, if_true, if_false]; done) | (simp only [upd_get, String.reduceEq, if_true, if_false]; first | assumption | rfl))) ?_
    refine EV_self G (by (first | assumption | (simp only [upd_get, String.reduceEq, if_true, if_false]; done) | (simp only [upd_get, String.reduceEq, if_true, if_false]; first | assumption | rfl))) I' hb ?_
    refine OP_isNone ?_
    refine TRU_bool ?_
    rw [show AV.isNone (.ref bA) = false from rfl, if_neg Bool.false_ne_true]
    refine EXs_nil ?_
    refine EXs_cons ?_
    refine EX_AssignA (EV_local g1 (ASG_self G g0 I' ?_))
    have I1 := I'.put (ma' := upd ma (S "b") (.ref bA))
    refine EXs_cons (EX_Assign2 (EV_none (ASG_self G g0 I1 ?_)))
    rw [Hp.set_set]
    have I2 := I'.put (ma' := upd (upd ma (S "b") (.ref bA)) (S "matching_blocks") .none)
    refine ASG_self G g0 I2 ?_
    rw [Hp.set_set]
    have I3 := I'.put (ma' := upd (upd (upd ma (S "b") (.ref bA)) (S "matching_blocks") .none) (S "opcodes") .none)
    refine EXs_cons (EX_AssignA (EV_none (ASG_self G g0 I3 ?_)))
    rw [Hp.set_set]
    have I4 := I'.put (ma' := upd (upd (upd (upd ma (S "b") (.ref bA)) (S "matching_blocks") .none) (S "opcodes") .none) (S "fullbcount") .none)
    refine EXs_cons (EX_Expr (EV_meth0 G (clsS w) (f := 188) (by kernel_rfl) (by kernel_rfl) (by kernel_rfl) (EV_local g0 ⟨x, dx, _, rfl, I4, ?_, ?_⟩)))
    · (first | assumption | (simp only [upd_get, String.reduceEq, if_true, if_false]; done) | (simp only [upd_get, String.reduceEq, if_true, if_false]; first | assumption | rfl))
    refine CL_chain (A := A.deeper (callEnv fdSeq2 L 181)) G hh (by show A.depth + 1 < _; omega) I4 (by (first | assumption | (simp only [upd_get, String.reduceEq, if_true, if_false]; done) | (simp only [upd_get, String.reduceEq, if_true, if_false]; first | assumption | rfl))) (hl'.put hdl) (by (first | assumption | (simp only [upd_get, String.reduceEq, if_true, if_false]; done) | (simp only [upd_get, String.reduceEq, if_true, if_false]; first | assumption | rfl))) (by (first | assumption | (simp only [upd_get, String.reduceEq, if_true, if_false]; done) | (simp only [upd_get, String.reduceEq, if_true, if_false]; first | assumption | rfl))) fun u1 u2 u3 => ?_
    rw [Hp.set_set]
    refine ⟨by simp, by simp, by simp, ?_⟩
    refine EXs_nil ?_
    exact ret_put hL I.dL I'.dL (h _ _ _)
end
end Mine

open PySem PySem.W PyProof.Rows PySem.Calls
set_option maxRecDepth 100000
namespace Mine
theorem VRs_three {h : Heap} {a b c : AV} {vs : List Value} (x : VRs h [a, b, c] vs) : ∃ u v w, vs = [u, v, w] ∧ VR h a u ∧ VR h b v ∧ VR h c w := by
  simp only [VRs] at x; obtain ⟨v, r, rfl, h1, u, r', rfl, h2, z, r'', rfl, h3, rfl⟩ := x; exact ⟨_, _, _, rfl, h1, h2, h3⟩
theorem VRs_four {h : Heap} {a b c d : AV} {vs : List Value} (x : VRs h [a, b, c, d] vs) : ∃ u v w z, vs = [u, v, w, z] ∧ VR h a u ∧ VR h b v ∧ VR h c w ∧ VR h d z := by
  simp only [VRs] at x; obtain ⟨v, r, rfl, h1, u, r', rfl, h2, z, r'', rfl, h3, y, r''', rfl, h4, rfl⟩ := x; exact ⟨_, _, _, _, rfl, h1, h2, h3, h4⟩
section
variable {w : World} {A : Around} {E : Value → Shared → Prop} {B : Shared} {env : Env} {m : Loc} {hp : Hp}
def attrs0 (ma : Loc) (aA bA : Addr) (u1 u2 u3 : AV) : Loc :=
  upd (upd (upd (upd (upd (upd (upd (upd (upd (upd ma (S "a") (.ref aA)) (S "matching_blocks") .none) (S "opcodes") .none) (S "b") (.ref bA)) (S "matching_blocks") .none) (S "opcodes") .none) (S "fullbcount") .none) (S "b2j") u1) (S "bjunk") u2) (S "bpopular") u3
theorem CL_seqs {x dx aA bA : Addr} {ma : Loc} {Q : AV → Hp → Prop} (G : Gnd (KW w) B) (hh : A.handled = none) (hroom : A.depth + 2 < recursionLimit) (I : Ins hp env.locals x dx 242 ma) (ha : ma (S "a") = some .none) (hb : ma (S "b") = some .none) (hl : Lst B hp env.locals bA [])
    (hj : ma (S "isjunk") = some .none) (hau : ma (S "autojunk") = some (.bool true)) (hc : ma (S "_SequenceMatcher__chain_b") = none) (hc1 : ma (S "set_seq1") = none) (hc2 : ma (S "set_seq2") = none)
    (h : ∀ u1 u2 u3, Q .none (hp.set dx (.atr (attrs0 ma aA bA u1 u2 u3)))) :
    CL (model PW w) A E B env (.ref 167) m [.ref x, .ref aA, .ref bA] hp Q := by
  refine CD.cl (CD_fn (bs := [(S "b", .ref bA), (S "a", .ref aA), (S "self", .ref x)]) (body := dBody (mS 2)) G (kSeqs w) (by kernel_rfl) rfl (by omega) (fun s vs hv _ => ?_) (by kernel_rfl) (by decide) (fun L hL hLe => ?_))
  · obtain ⟨v, u, z, rfl, h1, h2, h3⟩ := VRs_three hv
    exact ⟨[(S "self", v), (S "a", u), (S "b", z)], BindsTo.of_eq rfl, rfl, by simp only [List.reverse_cons, List.reverse_nil, List.nil_append, List.cons_append, List.map_cons, List.map_nil, VRs]; exact ⟨_, _, rfl, h3, _, _, rfl, h2, _, _, rfl, h1, rfl⟩⟩
  · have I' : Ins (hp.set env.locals (.ns m)) L x dx 242 ma := I.call hL
    have hl' : Lst B (hp.set env.locals (.ns m)) L bA [] := hl.call hL
    have hdl : ∀ ys, (hp.set env.locals (.ns m)) dx ≠ some (.list ys) := fun ys e => by rw [I'.at_] at e; cases e
    have g0 : locOf [(S "b", AV.ref bA), (S "a", AV.ref aA), (S "self", AV.ref x)] (S "self") = some (.ref x) := by simp only [locOf_get, String.reduceEq, if_false, if_true]
    have g1 : locOf [(S "b", AV.ref bA), (S "a", AV.ref aA), (S "self", AV.ref x)] (S "b") = some (.ref bA) := by simp only [locOf_get, if_true]
    have g2 : locOf [(S "b", AV.ref bA), (S "a", AV.ref aA), (S "self", AV.ref x)] (S "a") = some (.ref aA) := by simp only [locOf_get, String.reduceEq, if_false, if_true]
    generalize hm0 : locOf [(S "b", AV.ref bA), (S "a", AV.ref aA), (S "self", AV.ref x)] = m0 at *
    conv => arg 6; whnf
    refine EXs_cons (EX_doc ?_)
    refine EXs_cons (EX_Expr (EV_meth G (clsS w) (f := 174) (by kernel_rfl) (by kernel_rfl) (by kernel_rfl) (EV_local g0 ⟨x, dx, _, rfl, I', hc1, EVS_cons (EV_local g2 (EVS_nil ?_))⟩)))
    refine CL_seq1 (A := A.deeper (callEnv fdSeqs L 167)) G (by show A.depth + 1 < _; omega) I' ha ?_
    refine ⟨by simp, by simp, by simp, ?_⟩
    have I1 := I'.put (ma' := upd (upd (upd ma (S "a") (.ref aA)) (S "matching_blocks") .none) (S "opcodes") .none)
    refine EXs_cons (EX_Expr (EV_meth G (clsS w) (f := 181) (by kernel_rfl) (by kernel_rfl) (by kernel_rfl) (EV_local g0 ⟨x, dx, _, rfl, I1, ?_, EVS_cons (EV_local g1 (EVS_nil ?_))⟩)))
    · (first | assumption | (simp only [upd_get, String.reduceEq, if_true, if_false]; done) | (simp only [upd_get, String.reduceEq, if_true, if_false]; first | assumption | rfl))
    refine CL_seq2 (A := A.deeper (callEnv fdSeqs L 167)) G hh (by show A.depth + 1 + 1 < _; omega) I1 (by (first | assumption | (simp only [upd_get, String.reduceEq, if_true, if_false]; done) | (simp only [upd_get, String.reduceEq, if_true, if_false]; first | assumption | rfl))) (hl'.put hdl) (by (first | assumption | (simp only [upd_get, String.reduceEq, if_true, if_false]; done) | (simp only [upd_get, String.reduceEq, if_true, if_false]; first | assumption | rfl))) (by (first | assumption | (simp only [upd_get, String.reduceEq, if_true, if_false]; done) | (simp only [upd_get, String.reduceEq, if_true, if_false]; first | assumption | rfl))) (by (first | assumption | (simp only [upd_get, String.reduceEq, if_true, if_false]; done) | (simp only [upd_get, String.reduceEq, if_true, if_false]; first | assumption | rfl))) fun u1 u2 u3 => ?_
    rw [Hp.set_set]
    refine ⟨by simp, by simp, by simp, ?_⟩
    refine EXs_nil ?_
    exact ret_put hL I.dL I'.dL (h _ _ _)
theorem CL_SM {aA bA : Addr} {Q : AV → Hp → Prop} (G : Gnd (KW w) B) (hh : A.handled = none) (hroom : A.depth + 5 < recursionLimit) (hl : Lst B hp env.locals bA [])
    (h : ∀ x dx u1 u2 u3, hp x = none → hp dx = none → x ≠ dx → x ≠ env.locals → dx ≠ env.locals → Q (.ref x) ((hp.set dx (.atr (attrs0 (upd (upd (upd (upd (fun _ => none) (S "isjunk") .none) (S "a") .none) (S "b") .none) (S "autojunk") (.bool true)) aA bA u1 u2 u3))).set x (.obj (instObj 242 dx)))) :
    CL (model PW w) A E B env (.ref 242) m [.none, .ref aA, .ref bA] hp Q := by
  refine CL_make G (makesS w) (fI := 160) (by kernel_rfl) (by kernel_rfl) fun x dx vs' hx hdx hxd hxL hdL => ?_
  refine CD_fn (bs := [(S "autojunk", .bool true), (S "b", .ref bA), (S "a", .ref aA), (S "isjunk", .none), (S "self", .ref x)]) (body := dBody (mS 1)) G (kInit w) (by kernel_rfl) rfl (by show A.depth + 1 < _; omega) (fun s vs hv hk => ?_) (by kernel_rfl) (by decide) (fun L hL hLe => ?_)
  · obtain ⟨v, u, z, y, rfl, h1, h2, h3, h4⟩ := VRs_four hv
    exact ⟨[(S "self", v), (S "isjunk", u), (S "a", z), (S "b", y), (S "autojunk", .bool true)], binds_K (G.X.keeps hk) rfl (by rfl) rfl rfl rfl, rfl, by simp only [List.reverse_cons, List.reverse_nil, List.nil_append, List.cons_append, List.map_cons, List.map_nil, VRs]; exact ⟨_, _, rfl, VR_bool, _, _, rfl, h4, _, _, rfl, h3, _, _, rfl, h2, _, _, rfl, h1, rfl⟩⟩
  · have hle : Hp.Le hp ((hp.set dx (.atr fun _ => none)).set x (.obj (instObj 242 dx))) := ((Hp.Le.refl hp).set hdx _).set hx _
    have I : Ins ((hp.set dx (.atr fun _ => none)).set x (.obj (instObj 242 dx))) env.locals x dx 242 (fun _ => none) := ⟨Hp.set_same .., by rw [Hp.set_ne _ _ (Ne.symm hxd), Hp.set_same], hxL, hdL⟩
    have hl1 := hl.le hle
    have heq : ∀ ma, ((hp.set dx (.atr fun _ => none)).set x (.obj (instObj 242 dx))).set dx (.atr ma) = (hp.set dx (.atr ma)).set x (.obj (instObj 242 dx)) := fun ma => by
      rw [Hp.set_comm _ _ _ hxd, Hp.set_set]
    generalize hq : (hp.set dx (.atr fun _ => none)).set x (.obj (instObj 242 dx)) = hp1 at *
    have I' : Ins (hp1.set env.locals (.ns m)) L x dx 242 (fun _ => none) := I.call hL
    have hl' : Lst B (hp1.set env.locals (.ns m)) L bA [] := hl1.call hL
    have hdl : ∀ ys, (hp1.set env.locals (.ns m)) dx ≠ some (.list ys) := fun ys e => by rw [I'.at_] at e; cases e
    have g0 : locOf [(S "autojunk", AV.bool true), (S "b", AV.ref bA), (S "a", AV.ref aA), (S "isjunk", AV.none), (S "self", AV.ref x)] (S "self") = some (.ref x) := by simp only [locOf_get, String.reduceEq, if_false, if_true]
    have g1 : locOf [(S "autojunk", AV.bool true), (S "b", AV.ref bA), (S "a", AV.ref aA), (S "isjunk", AV.none), (S "self", AV.ref x)] (S "b") = some (.ref bA) := by simp only [locOf_get, String.reduceEq, if_false, if_true]
    have g2 : locOf [(S "autojunk", AV.bool true), (S "b", AV.ref bA), (S "a", AV.ref aA), (S "isjunk", AV.none), (S "self", AV.ref x)] (S "a") = some (.ref aA) := by simp only [locOf_get, String.reduceEq, if_false, if_true]
    have g3 : locOf [(S "autojunk", AV.bool true), (S "b", AV.ref bA), (S "a", AV.ref aA), (S "isjunk", AV.none), (S "self", AV.ref x)] (S "isjunk") = some .none := by simp only [locOf_get, String.reduceEq, if_false, if_true]
    have g4 : locOf [(S "autojunk", AV.bool true), (S "b", AV.ref bA), (S "a", AV.ref aA), (S "isjunk", AV.none), (S "self", AV.ref x)] (S "autojunk") = some (.bool true) := by simp only [locOf_get, if_true]
    generalize hm0 : locOf [(S "autojunk", AV.bool true), (S "b", AV.ref bA), (S "a", AV.ref aA), (S "isjunk", AV.none), (S "self", AV.ref x)] = m0 at *
    conv => arg 6; whnf
    refine EXs_cons (EX_doc ?_)
    refine EXs_cons (EX_AssignA (EV_local g3 (ASG_self G g0 I' ?_)))
    have I1 := I'.put (ma' := upd (fun _ => none) (S "isjunk") .none)
    refine EXs_cons (EX_Assign2 (EV_none (ASG_self G g0 I1 ?_)))
    rw [Hp.set_set]
    have I2 := I'.put (ma' := upd (upd (fun _ => none) (S "isjunk") .none) (S "a") .none)
    refine ASG_self G g0 I2 ?_
    rw [Hp.set_set]
    have I3 := I'.put (ma' := upd (upd (upd (fun _ => none) (S "isjunk") .none) (S "a") .none) (S "b") .none)
    refine EXs_cons (EX_AssignA (EV_local g4 (ASG_self G g0 I3 ?_)))
    rw [Hp.set_set]
    have I4 := I'.put (ma' := upd (upd (upd (upd (fun _ => none) (S "isjunk") .none) (S "a") .none) (S "b") .none) (S "autojunk") (.bool true))
    refine EXs_cons (EX_Expr (EV_meth G (clsS w) (f := 167) (by kernel_rfl) (by kernel_rfl) (by kernel_rfl) (EV_local g0 ⟨x, dx, _, rfl, I4, ?_, EVS_cons (EV_local g2 (EVS_cons (EV_local g1 (EVS_nil ?_))))⟩)))
    · (first | assumption | (simp only [upd_get, String.reduceEq, if_true, if_false]; done) | (simp only [upd_get, String.reduceEq, if_true, if_false]; first | assumption | rfl))
    refine CL_seqs (A := (A.under (.builtin "type.__call__" ⟨.ref 242 :: vs', []⟩)).deeper (callEnv fdInit L 160)) G hh (by show A.depth + 1 + 1 + 2 < _; omega) I4 (by (first | assumption | (simp only [upd_get, String.reduceEq, if_true, if_false]; done) | (simp only [upd_get, String.reduceEq, if_true, if_false]; first | assumption | rfl))) (by (first | assumption | (simp only [upd_get, String.reduceEq, if_true, if_false]; done) | (simp only [upd_get, String.reduceEq, if_true, if_false]; first | assumption | rfl))) (hl'.put hdl) (by (first | assumption | (simp only [upd_get, String.reduceEq, if_true, if_false]; done) | (simp only [upd_get, String.reduceEq, if_true, if_false]; first | assumption | rfl))) (by (first | assumption | (simp only [upd_get, String.reduceEq, if_true, if_false]; done) | (simp only [upd_get, String.reduceEq, if_true, if_false]; first | assumption | rfl))) (by (first | assumption | (simp only [upd_get, String.reduceEq, if_true, if_false]; done) | (simp only [upd_get, String.reduceEq, if_true, if_false]; first | assumption | rfl))) (by (first | assumption | (simp only [upd_get, String.reduceEq, if_true, if_false]; done) | (simp only [upd_get, String.reduceEq, if_true, if_false]; first | assumption | rfl))) (by (first | assumption | (simp only [upd_get, String.reduceEq, if_true, if_false]; done) | (simp only [upd_get, String.reduceEq, if_true, if_false]; first | assumption | rfl))) fun u1 u2 u3 => ?_
    rw [Hp.set_set]
    refine ⟨by simp, by simp, by simp, ?_⟩
    refine EXs_nil ?_
    refine ret_put hL I.dL I'.dL ⟨rfl, ?_⟩
    rw [heq]
    exact h _ _ _ _ _ hx hdx hxd hxL hdL
end
end Mine

open PySem PySem.W PyProof.Rows PySem.Calls
set_option maxRecDepth 100000
namespace Mine
abbrev Op := String × Int × Int × Int × Int
def oAV (o : Op) : AV := .tup [.str (S o.1), .int o.2.1, .int o.2.2.1, .int o.2.2.2.1, .int o.2.2.2.2]
def tagOf (i ai j bj : Int) : String := if i < ai then (if j < bj then "replace" else "delete") else if j < bj then "insert" else ""
abbrev CSt := Int × Int × List Op
def stepC (st : CSt) (b : Blk) : CSt :=
  (b.1 + b.2.2, b.2.1 + b.2.2, st.2.2 ++ ((if tagOf st.1 b.1 st.2.1 b.2.1 = "" then [] else [(tagOf st.1 b.1 st.2.1 b.2.1, st.1, b.1, st.2.1, b.2.1)]) ++ (if b.2.2 = 0 then [] else [("equal", b.1, b.1 + b.2.2, b.2.1, b.2.1 + b.2.2)])))
def stC (bl : List Blk) (k : Nat) : CSt := (bl.take k).foldl stepC (0, 0, [])
theorem foldl_take_succ {α β : Type} {f : β → α → β} {l : List α} {k : Nat} {x : α} {z : β} (h : l[k]? = some x) : (l.take (k + 1)).foldl f z = f ((l.take k).foldl f z) x := by
  have hk : k < l.length := by
    rcases Nat.lt_or_ge k l.length with h' | h'
    · exact h'
    · rw [List.getElem?_eq_none h'] at h; cases h
  rw [List.take_add_one, h, List.foldl_append]; rfl
theorem stC_succ {bl : List Blk} {k : Nat} {b : Blk} (h : bl[k]? = some b) : stC bl (k + 1) = stepC (stC bl k) b := foldl_take_succ h
theorem stC_len {bl : List Blk} : ∀ k, (stC bl k).2.2.length ≤ 2 * k
  | 0 => by simp [stC]
  | k + 1 => by
    have ih := stC_len (bl := bl) k
    cases h : bl[k]? with
    | none =>
      have hk : bl.length ≤ k := List.getElem?_eq_none_iff.mp h
      have : stC bl (k + 1) = stC bl k := by unfold stC; rw [List.take_of_length_le (by omega), List.take_of_length_le hk]
      rw [this]; omega
    | some b =>
      rw [stC_succ h]
      simp only [stepC, List.length_append]
      split <;> split <;> simp <;> omega
def opsOf (bl : List Blk) : List Op := (bl.foldl stepC (0, 0, [])).2.2
theorem opsOf_eq (bl : List Blk) : opsOf bl = (stC bl bl.length).2.2 := by unfold opsOf stC; rw [List.take_length]
def IC (hb : Hp) (L it aA : Addr) (bl : List Blk) (k : Nat) (m : Loc) (hp : Hp) : Prop :=
  m (S "answer") = some (.ref aA) ∧ m (S "i") = some (.int (stC bl k).1) ∧ m (S "j") = some (.int (stC bl k).2.1) ∧ hp aA = some (.list ((stC bl k).2.2.map oAV)) ∧ Hp.Le hb hp
theorem IC.set {hb : Hp} {L it aA : Addr} {bl : List Blk} {k : Nat} {m : Loc} {hp : Hp} (h : IC hb L it aA bl k m hp) (hit : hb it = none) (hai : aA ≠ it) (ob : Obj) : IC hb L it aA bl k m (hp.set it (.obj ob)) := by
  obtain ⟨h1, h2, h3, h4, h5⟩ := h
  exact ⟨h1, h2, h3, by rw [Hp.set_ne _ _ hai]; exact h4, h5.set hit _⟩
section
variable {w : World} {A : Around} {E : Value → Shared → Prop} {B : Shared} {env : Env} {m : Loc} {hp : Hp}
theorem CL_mb {x dx : Addr} {ma : Loc} {bA : Addr} {Q : AV → Hp → Prop} (G : Gnd (KW w) B) (hroom : A.depth < recursionLimit) (I : Ins hp env.locals x dx 242 ma) (hb : ma (S "matching_blocks") = some (.ref bA)) (h : Q (.ref bA) hp) :
    CL (model PW w) A E B env (.ref 203) m [.ref x] hp Q := by
  refine CD.cl (CD_fn (bs := [(S "self", .ref x)]) (body := dBody (mS 7)) G (kMB w) (by kernel_rfl) rfl hroom (fun s vs hv _ => ?_) (by kernel_rfl) (by decide) (fun L hL hLe => ?_))
  · obtain ⟨v, rfl, h1⟩ := VRs_one hv
    exact ⟨[(S "self", v)], BindsTo.of_eq rfl, rfl, VRs.one h1⟩
  · have I' : Ins (hp.set env.locals (.ns m)) L x dx 242 ma := I.call hL
    have g0 : locOf [(S "self", AV.ref x)] (S "self") = some (.ref x) := by simp only [locOf_get, if_true]
    generalize hm0 : locOf [(S "self", AV.ref x)] = m0 at *
    conv => arg 6; whnf
    refine EXs_cons (EX_doc ?_)
    refine EXs_cons ?_
    refine EX_If ?_
    refine TST_Compare1 ?_
    refine EV_self G g0 I' hb ?_
    refine EV_none ?_
    refine OP_isNotNone ?_
    refine TRU_bool ?_
    rw [show (!AV.isNone (.ref bA)) = true from rfl, if_pos rfl]
    refine EXs_cons ?_
    refine EX_Return ?_
    refine EV_self G g0 I' hb ?_
    exact ret_same hL h
theorem codes_turn {Q : AF → Loc → Hp → Prop} {L it aA : Addr} {hb hp : Hp} {m : Loc} {bl : List Blk} {k : Nat} {b : Blk} {ob : Obj} (hh : A.handled = none) (hlen : bl.length ≤ 100) (hk : bl[k]? = some b) (I : IC hb L it aA bl k m hp) (hba : hb aA = none) (haL : aA ≠ L) (hai : aA ≠ it) (hit : hp it = some (.obj ob)) :
    ASG (model PW w) A (fun _ _ => False) B (callEnv fdCodes L 210) (match dBody (mS 8) with | [_, _, _, _, .For t _ _ _ _, _] => t | _ => .Name (S "") ⟨0, 0, 0, 0⟩) (bAV b) m hp fun m' hp' =>
      EXs (model PW w) A (fun _ _ => False) B (callEnv fdCodes L 210) (match dBody (mS 8) with | [_, _, _, _, .For _ _ b _ _, _] => b | _ => []) m' hp'
      (fun fl m' hp' => match fl with | .next | .cont => IC hb L it aA bl (k + 1) m' hp' ∧ hp' it = some (.obj ob) | .brk => Q .next m' hp' | .ret v => Q (.ret v) m' hp') := by
  obtain ⟨h1, h2, h3, h4, h5⟩ := I
  conv => arg 6; whnf
  refine ASG_Tuple hh rfl rfl rfl (ASGS_cons (ASG_Name (ASGS_cons (ASG_Name (ASGS_cons (ASG_Name (ASGS_nil ?_)))))))
  conv => arg 6; whnf
  generalize hm1 : upd (upd (upd m _ _) _ _) _ _ = m1
  have g1 : m1 (S "answer") = some (.ref aA) := by subst hm1; (first | assumption | (simp only [upd_get, String.reduceEq, if_true, if_false]; done) | (simp only [upd_get, String.reduceEq, if_true, if_false]; first | assumption | rfl))
  have g2 : m1 (S "i") = some (.int (stC bl k).1) := by subst hm1; (first | assumption | (simp only [upd_get, String.reduceEq, if_true, if_false]; done) | (simp only [upd_get, String.reduceEq, if_true, if_false]; first | assumption | rfl))
  have g3 : m1 (S "j") = some (.int (stC bl k).2.1) := by subst hm1; (first | assumption | (simp only [upd_get, String.reduceEq, if_true, if_false]; done) | (simp only [upd_get, String.reduceEq, if_true, if_false]; first | assumption | rfl))
  have g4 : m1 (S "ai") = some (.int b.1) := by subst hm1; (first | assumption | (simp only [upd_get, String.reduceEq, if_true, if_false]; done) | (simp only [upd_get, String.reduceEq, if_true, if_false]; first | assumption | rfl))
  have g5 : m1 (S "bj") = some (.int b.2.1) := by subst hm1; (first | assumption | (simp only [upd_get, String.reduceEq, if_true, if_false]; done) | (simp only [upd_get, String.reduceEq, if_true, if_false]; first | assumption | rfl))
  have g6 : m1 (S "size") = some (.int b.2.2) := by subst hm1; (first | assumption | (simp only [upd_get, String.reduceEq, if_true, if_false]; done) | (simp only [upd_get, String.reduceEq, if_true, if_false]; first | assumption | rfl))
  clear hm1 h1 h2 h3
  refine EXs_cons ?_
  refine EX_Assign ?_
  refine EV_strc ?_
  generalize hm2 : upd m1 _ _ = m2
  have f1 : m2 (S "answer") = some (.ref aA) := by subst hm2; (first | assumption | (simp only [upd_get, String.reduceEq, if_true, if_false]; done) | (simp only [upd_get, String.reduceEq, if_true, if_false]; first | assumption | rfl))
  have f2 : m2 (S "i") = some (.int (stC bl k).1) := by subst hm2; (first | assumption | (simp only [upd_get, String.reduceEq, if_true, if_false]; done) | (simp only [upd_get, String.reduceEq, if_true, if_false]; first | assumption | rfl))
  have f3 : m2 (S "j") = some (.int (stC bl k).2.1) := by subst hm2; (first | assumption | (simp only [upd_get, String.reduceEq, if_true, if_false]; done) | (simp only [upd_get, String.reduceEq, if_true, if_false]; first | assumption | rfl))
  have f4 : m2 (S "ai") = some (.int b.1) := by subst hm2; (first | assumption | (simp only [upd_get, String.reduceEq, if_true, if_false]; done) | (simp only [upd_get, String.reduceEq, if_true, if_false]; first | assumption | rfl))
  have f5 : m2 (S "bj") = some (.int b.2.1) := by subst hm2; (first | assumption | (simp only [upd_get, String.reduceEq, if_true, if_false]; done) | (simp only [upd_get, String.reduceEq, if_true, if_false]; first | assumption | rfl))
  have f6 : m2 (S "size") = some (.int b.2.2) := by subst hm2; (first | assumption | (simp only [upd_get, String.reduceEq, if_true, if_false]; done) | (simp only [upd_get, String.reduceEq, if_true, if_false]; first | assumption | rfl))
  have f7 : m2 (S "tag") = some (.str (S "")) := by subst hm2; (first | assumption | (simp only [upd_get, String.reduceEq, if_true, if_false]; done) | (simp only [upd_get, String.reduceEq, if_true, if_false]; first | assumption | rfl))
  clear hm2 g1 g2 g3 g4 g5 g6
  refine EXs_seq (fun m' hp' => hp' = hp ∧ m' (S "answer") = some (.ref aA) ∧ m' (S "i") = some (.int (stC bl k).1) ∧ m' (S "j") = some (.int (stC bl k).2.1) ∧ m' (S "ai") = some (.int b.1) ∧ m' (S "bj") = some (.int b.2.1) ∧ m' (S "size") = some (.int b.2.2) ∧
    m' (S "tag") = some (.str (S (tagOf (stC bl k).1 b.1 (stC bl k).2.1 b.2.1)))) ?_ ?_
  · by_cases c1 : (stC bl k).1 < b.1
    · by_cases c2 : (stC bl k).2.1 < b.2.1
      · refine EX_If ?_
        refine TST_BoolOp ?_
        refine ALLT_And_cons ?_
        refine TST_Compare1 ?_
        refine EV_local (by (first | assumption | (simp only [upd_get, String.reduceEq, if_true, if_false]; done) | (simp only [upd_get, String.reduceEq, if_true, if_false]; first | assumption | rfl))) ?_
        refine EV_local (by (first | assumption | (simp only [upd_get, String.reduceEq, if_true, if_false]; done) | (simp only [upd_get, String.reduceEq, if_true, if_false]; first | assumption | rfl))) ?_
        refine OP_lt ?_
        refine TRU_bool ?_
        rw [decide_eq_true c1, if_pos rfl]
        refine ALLT_And_cons ?_
        refine TST_Compare1 ?_
        refine EV_local (by (first | assumption | (simp only [upd_get, String.reduceEq, if_true, if_false]; done) | (simp only [upd_get, String.reduceEq, if_true, if_false]; first | assumption | rfl))) ?_
        refine EV_local (by (first | assumption | (simp only [upd_get, String.reduceEq, if_true, if_false]; done) | (simp only [upd_get, String.reduceEq, if_true, if_false]; first | assumption | rfl))) ?_
        refine OP_lt ?_
        refine TRU_bool ?_
        rw [decide_eq_true c2, if_pos rfl]
        refine ALLT_And_nil ?_
        rw [if_pos rfl]
        refine EXs_cons ?_
        refine EX_Assign ?_
        refine EV_strc ?_
        refine EXs_nil ?_
        refine ⟨rfl, rfl, ?_, ?_, ?_, ?_, ?_, ?_, ?_⟩ <;> first | (first | assumption | (simp only [upd_get, String.reduceEq, if_true, if_false]; done) | (simp only [upd_get, String.reduceEq, if_true, if_false]; first | assumption | rfl)) | (simp only [upd_get, if_true, tagOf, c1, c2])
      · refine EX_If ?_
        refine TST_BoolOp ?_
        refine ALLT_And_cons ?_
        refine TST_Compare1 ?_
        refine EV_local (by (first | assumption | (simp only [upd_get, String.reduceEq, if_true, if_false]; done) | (simp only [upd_get, String.reduceEq, if_true, if_false]; first | assumption | rfl))) ?_
        refine EV_local (by (first | assumption | (simp only [upd_get, String.reduceEq, if_true, if_false]; done) | (simp only [upd_get, String.reduceEq, if_true, if_false]; first | assumption | rfl))) ?_
        refine OP_lt ?_
        refine TRU_bool ?_
        rw [decide_eq_true c1, if_pos rfl]
        refine ALLT_And_cons ?_
        refine TST_Compare1 ?_
        refine EV_local (by (first | assumption | (simp only [upd_get, String.reduceEq, if_true, if_false]; done) | (simp only [upd_get, String.reduceEq, if_true, if_false]; first | assumption | rfl))) ?_
        refine EV_local (by (first | assumption | (simp only [upd_get, String.reduceEq, if_true, if_false]; done) | (simp only [upd_get, String.reduceEq, if_true, if_false]; first | assumption | rfl))) ?_
        refine OP_lt ?_
        refine TRU_bool ?_
        rw [decide_eq_false c2, if_neg Bool.false_ne_true, if_neg Bool.false_ne_true]
        refine EXs_cons ?_
        refine EX_If ?_
        refine TST_Compare1 ?_
        refine EV_local (by (first | assumption | (simp only [upd_get, String.reduceEq, if_true, if_false]; done) | (simp only [upd_get, String.reduceEq, if_true, if_false]; first | assumption | rfl))) ?_
        refine EV_local (by (first | assumption | (simp only [upd_get, String.reduceEq, if_true, if_false]; done) | (simp only [upd_get, String.reduceEq, if_true, if_false]; first | assumption | rfl))) ?_
        refine OP_lt ?_
        refine TRU_bool ?_
        rw [decide_eq_true c1, if_pos rfl]
        refine EXs_cons ?_
        refine EX_Assign ?_
        refine EV_strc ?_
        refine EXs_nil ?_
        refine EXs_nil ?_
        refine ⟨rfl, rfl, ?_, ?_, ?_, ?_, ?_, ?_, ?_⟩ <;> first | (first | assumption | (simp only [upd_get, String.reduceEq, if_true, if_false]; done) | (simp only [upd_get, String.reduceEq, if_true, if_false]; first | assumption | rfl)) | (simp only [upd_get, if_true, if_false, tagOf, c1, c2])
    · by_cases c2 : (stC bl k).2.1 < b.2.1
      · refine EX_If ?_
        refine TST_BoolOp ?_
        refine ALLT_And_cons ?_
        refine TST_Compare1 ?_
        refine EV_local (by (first | assumption | (simp only [upd_get, String.reduceEq, if_true, if_false]; done) | (simp only [upd_get, String.reduceEq, if_true, if_false]; first | assumption | rfl))) ?_
        refine EV_local (by (first | assumption | (simp only [upd_get, String.reduceEq, if_true, if_false]; done) | (simp only [upd_get, String.reduceEq, if_true, if_false]; first | assumption | rfl))) ?_
        refine OP_lt ?_
        refine TRU_bool ?_
        rw [decide_eq_false c1, if_neg Bool.false_ne_true, if_neg Bool.false_ne_true]
        refine EXs_cons ?_
        refine EX_If ?_
        refine TST_Compare1 ?_
        refine EV_local (by (first | assumption | (simp only [upd_get, String.reduceEq, if_true, if_false]; done) | (simp only [upd_get, String.reduceEq, if_true, if_false]; first | assumption | rfl))) ?_
        refine EV_local (by (first | assumption | (simp only [upd_get, String.reduceEq, if_true, if_false]; done) | (simp only [upd_get, String.reduceEq, if_true, if_false]; first | assumption | rfl))) ?_
        refine OP_lt ?_
        refine TRU_bool ?_
        rw [decide_eq_false c1, if_neg Bool.false_ne_true]
        refine EXs_cons ?_
        refine EX_If ?_
        refine TST_Compare1 ?_
        refine EV_local (by (first | assumption | (simp only [upd_get, String.reduceEq, if_true, if_false]; done) | (simp only [upd_get, String.reduceEq, if_true, if_false]; first | assumption | rfl))) ?_
        refine EV_local (by (first | assumption | (simp only [upd_get, String.reduceEq, if_true, if_false]; done) | (simp only [upd_get, String.reduceEq, if_true, if_false]; first | assumption | rfl))) ?_
        refine OP_lt ?_
        refine TRU_bool ?_
        rw [decide_eq_true c2, if_pos rfl]
        refine EXs_cons ?_
        refine EX_Assign ?_
        refine EV_strc ?_
        refine EXs_nil ?_
        refine EXs_nil ?_
        refine EXs_nil ?_
        refine ⟨rfl, rfl, ?_, ?_, ?_, ?_, ?_, ?_, ?_⟩ <;> first | (first | assumption | (simp only [upd_get, String.reduceEq, if_true, if_false]; done) | (simp only [upd_get, String.reduceEq, if_true, if_false]; first | assumption | rfl)) | (simp only [upd_get, if_true, if_false, tagOf, c1, c2])
      · refine EX_If ?_
        refine TST_BoolOp ?_
        refine ALLT_And_cons ?_
        refine TST_Compare1 ?_
        refine EV_local (by (first | assumption | (simp only [upd_get, String.reduceEq, if_true, if_false]; done) | (simp only [upd_get, String.reduceEq, if_true, if_false]; first | assumption | rfl))) ?_
        refine EV_local (by (first | assumption | (simp only [upd_get, String.reduceEq, if_true, if_false]; done) | (simp only [upd_get, String.reduceEq, if_true, if_false]; first | assumption | rfl))) ?_
        refine OP_lt ?_
        refine TRU_bool ?_
        rw [decide_eq_false c1, if_neg Bool.false_ne_true, if_neg Bool.false_ne_true]
        refine EXs_cons ?_
        refine EX_If ?_
        refine TST_Compare1 ?_
        refine EV_local (by (first | assumption | (simp only [upd_get, String.reduceEq, if_true, if_false]; done) | (simp only [upd_get, String.reduceEq, if_true, if_false]; first | assumption | rfl))) ?_
        refine EV_local (by (first | assumption | (simp only [upd_get, String.reduceEq, if_true, if_false]; done) | (simp only [upd_get, String.reduceEq, if_true, if_false]; first | assumption | rfl))) ?_
        refine OP_lt ?_
        refine TRU_bool ?_
        rw [decide_eq_false c1, if_neg Bool.false_ne_true]
        refine EXs_cons ?_
        refine EX_If ?_
        refine TST_Compare1 ?_
        refine EV_local (by (first | assumption | (simp only [upd_get, String.reduceEq, if_true, if_false]; done) | (simp only [upd_get, String.reduceEq, if_true, if_false]; first | assumption | rfl))) ?_
        refine EV_local (by (first | assumption | (simp only [upd_get, String.reduceEq, if_true, if_false]; done) | (simp only [upd_get, String.reduceEq, if_true, if_false]; first | assumption | rfl))) ?_
        refine OP_lt ?_
        refine TRU_bool ?_
        rw [decide_eq_false c2, if_neg Bool.false_ne_true]
        refine EXs_nil ?_
        refine EXs_nil ?_
        refine EXs_nil ?_
        refine ⟨rfl, rfl, f1, f2, f3, f4, f5, f6, ?_⟩
        simp only [tagOf, c1, c2, if_false]; exact f7
  · rintro m3 hp3 ⟨e3, g1, g2, g3, g4, g5, g6, g7⟩
    subst hp3
    have hlc := stC_len (bl := bl) k
    have hkl : k < bl.length := by
      rcases Nat.lt_or_ge k bl.length with h' | h'
      · exact h'
      · rw [List.getElem?_eq_none h'] at hk; cases hk
    refine EXs_seq (fun m' hp' => ∃ ops : List Op, ops = (stC bl k).2.2 ++ (if tagOf (stC bl k).1 b.1 (stC bl k).2.1 b.2.1 = "" then [] else [(tagOf (stC bl k).1 b.1 (stC bl k).2.1 b.2.1, (stC bl k).1, b.1, (stC bl k).2.1, b.2.1)]) ∧ ops.length ≤ 2 * k + 1 ∧ hp' = hp.set aA (.list (ops.map oAV)) ∧
      m' (S "answer") = some (.ref aA) ∧ m' (S "ai") = some (.int b.1) ∧ m' (S "bj") = some (.int b.2.1) ∧ m' (S "size") = some (.int b.2.2)) ?_ ?_
    · refine EX_If ?_
      refine TST_value ?_
      refine EV_local (by (first | assumption | (simp only [upd_get, String.reduceEq, if_true, if_false]; done) | (simp only [upd_get, String.reduceEq, if_true, if_false]; first | assumption | rfl))) ?_
      refine TRU_str ?_ ?_
      · unfold tagOf; split <;> split <;> decide
      · by_cases ht : tagOf (stC bl k).1 b.1 (stC bl k).2.1 b.2.1 = ""
        · rw [ht, if_neg (by decide)]
          refine EXs_nil ?_
          refine ⟨rfl, (stC bl k).2.2, by simp, by omega, ?_, g1, g4, g5, g6⟩
          funext z
          by_cases hz : z = aA
          · subst hz; rw [Hp.set_same]; exact h4
          · rw [Hp.set_ne _ _ hz]
        · have : ((S (tagOf (stC bl k).1 b.1 (stC bl k).2.1 b.2.1)).length != 0) = true := by
            revert ht; unfold tagOf; split <;> split <;> intro ht <;> first | decide | exact absurd rfl ht
          rw [this, if_pos rfl]
          refine EXs_cons (EX_Expr (EV_append (EV_local g1 ⟨aA, _, rfl, h4, haL, ?_⟩)))
          refine EVS_cons ?_
          refine EV_Tuple ?_
          refine EVS_cons ?_
          refine EV_local (by (first | assumption | (simp only [upd_get, String.reduceEq, if_true, if_false]; done) | (simp only [upd_get, String.reduceEq, if_true, if_false]; first | assumption | rfl))) ?_
          refine EVS_cons ?_
          refine EV_local (by (first | assumption | (simp only [upd_get, String.reduceEq, if_true, if_false]; done) | (simp only [upd_get, String.reduceEq, if_true, if_false]; first | assumption | rfl))) ?_
          refine EVS_cons ?_
          refine EV_local (by (first | assumption | (simp only [upd_get, String.reduceEq, if_true, if_false]; done) | (simp only [upd_get, String.reduceEq, if_true, if_false]; first | assumption | rfl))) ?_
          refine EVS_cons ?_
          refine EV_local (by (first | assumption | (simp only [upd_get, String.reduceEq, if_true, if_false]; done) | (simp only [upd_get, String.reduceEq, if_true, if_false]; first | assumption | rfl))) ?_
          refine EVS_cons ?_
          refine EV_local (by (first | assumption | (simp only [upd_get, String.reduceEq, if_true, if_false]; done) | (simp only [upd_get, String.reduceEq, if_true, if_false]; first | assumption | rfl))) ?_
          refine EVS_nil ?_
          refine ⟨sz rfl, ?_⟩
          refine EVS_nil ?_
          refine ⟨_, _, rfl, h4, by rw [List.length_map]; exact sz' (by omega), by simp, by simp, by simp, ?_⟩
          refine EXs_nil ?_
          refine ⟨rfl, (stC bl k).2.2 ++ [(tagOf (stC bl k).1 b.1 (stC bl k).2.1 b.2.1, (stC bl k).1, b.1, (stC bl k).2.1, b.2.1)], by rw [if_neg ht], by simp; omega, by simp [oAV], g1, g4, g5, g6⟩
    · rintro m4 hp4 ⟨ops, ho, hol, e4, f1, f4, f5, f6⟩
      subst e4
      refine EXs_cons (EX_AssignSw hh (names := [S "i", S "j"]) ?_)
      refine EV_Tuple ?_
      refine EVS_cons ?_
      refine EV_BinOp ?_
      refine EV_local (by (first | assumption | (simp only [upd_get, String.reduceEq, if_true, if_false]; done) | (simp only [upd_get, String.reduceEq, if_true, if_false]; first | assumption | rfl))) ?_
      refine EV_local (by (first | assumption | (simp only [upd_get, String.reduceEq, if_true, if_false]; done) | (simp only [upd_get, String.reduceEq, if_true, if_false]; first | assumption | rfl))) ?_
      refine OP_add ?_
      refine EVS_cons ?_
      refine EV_BinOp ?_
      refine EV_local (by (first | assumption | (simp only [upd_get, String.reduceEq, if_true, if_false]; done) | (simp only [upd_get, String.reduceEq, if_true, if_false]; first | assumption | rfl))) ?_
      refine EV_local (by (first | assumption | (simp only [upd_get, String.reduceEq, if_true, if_false]; done) | (simp only [upd_get, String.reduceEq, if_true, if_false]; first | assumption | rfl))) ?_
      refine OP_add ?_
      refine EVS_nil ?_
      refine ⟨sz rfl, ?_⟩
      refine ⟨_, rfl, rfl, ASGS_bind (ASGS_bind (ASGS_nil ?_))⟩
      refine EXs_cons ?_
      refine EX_If ?_
      refine TST_value ?_
      refine EV_local (by (first | assumption | (simp only [upd_get, String.reduceEq, if_true, if_false]; done) | (simp only [upd_get, String.reduceEq, if_true, if_false]; first | assumption | rfl))) ?_
      refine TRU_int ?_
      have hst : stC bl (k + 1) = (b.1 + b.2.2, b.2.1 + b.2.2, ops ++ (if b.2.2 = 0 then [] else [("equal", b.1, b.1 + b.2.2, b.2.1, b.2.1 + b.2.2)])) := by
        rw [stC_succ hk, stepC, ho, List.append_assoc]
      by_cases hs : b.2.2 = 0
      · rw [if_neg (by simp [hs])]
        refine EXs_nil ?_
        refine EXs_nil ?_
        refine ⟨⟨?_, ?_, ?_, ?_, (h5.set hba _)⟩, by rw [Hp.set_ne _ _ (Ne.symm hai)]; exact hit⟩
        · (first | assumption | (simp only [upd_get, String.reduceEq, if_true, if_false]; done) | (simp only [upd_get, String.reduceEq, if_true, if_false]; first | assumption | rfl))
        · rw [hst]; (first | assumption | (simp only [upd_get, String.reduceEq, if_true, if_false]; done) | (simp only [upd_get, String.reduceEq, if_true, if_false]; first | assumption | rfl))
        · rw [hst]; (first | assumption | (simp only [upd_get, String.reduceEq, if_true, if_false]; done) | (simp only [upd_get, String.reduceEq, if_true, if_false]; first | assumption | rfl))
        · rw [Hp.set_same, hst, if_pos hs]; simp
      · rw [if_pos (by simpa using hs)]
        refine EXs_cons (EX_Expr (EV_append (EV_local (v := .ref aA) (by (first | assumption | (simp only [upd_get, String.reduceEq, if_true, if_false]; done) | (simp only [upd_get, String.reduceEq, if_true, if_false]; first | assumption | rfl))) ⟨aA, _, rfl, Hp.set_same .., haL, ?_⟩)))
        refine EVS_cons ?_
        refine EV_Tuple ?_
        refine EVS_cons ?_
        refine EV_strc ?_
        refine EVS_cons ?_
        refine EV_local (by (first | assumption | (simp only [upd_get, String.reduceEq, if_true, if_false]; done) | (simp only [upd_get, String.reduceEq, if_true, if_false]; first | assumption | rfl))) ?_
        refine EVS_cons ?_
        refine EV_local (by (first | assumption | (simp only [upd_get, String.reduceEq, if_true, if_false]; done) | (simp only [upd_get, String.reduceEq, if_true, if_false]; first | assumption | rfl))) ?_
        refine EVS_cons ?_
        refine EV_local (by (first | assumption | (simp only [upd_get, String.reduceEq, if_true, if_false]; done) | (simp only [upd_get, String.reduceEq, if_true, if_false]; first | assumption | rfl))) ?_
        refine EVS_cons ?_
        refine EV_local (by (first | assumption | (simp only [upd_get, String.reduceEq, if_true, if_false]; done) | (simp only [upd_get, String.reduceEq, if_true, if_false]; first | assumption | rfl))) ?_
        refine EVS_nil ?_
        refine ⟨sz rfl, ?_⟩
        refine EVS_nil ?_
        refine ⟨_, _, rfl, Hp.set_same .., by rw [List.length_map]; exact sz' (by omega), by simp, by simp, by simp, ?_⟩
        refine EXs_nil ?_
        refine EXs_nil ?_
        refine ⟨⟨?_, ?_, ?_, ?_, ((h5.set hba _).set hba _)⟩, by rw [Hp.set_ne _ _ (Ne.symm hai), Hp.set_ne _ _ (Ne.symm hai)]; exact hit⟩
        · (first | assumption | (simp only [upd_get, String.reduceEq, if_true, if_false]; done) | (simp only [upd_get, String.reduceEq, if_true, if_false]; first | assumption | rfl))
        · rw [hst]; (first | assumption | (simp only [upd_get, String.reduceEq, if_true, if_false]; done) | (simp only [upd_get, String.reduceEq, if_true, if_false]; first | assumption | rfl))
        · rw [hst]; (first | assumption | (simp only [upd_get, String.reduceEq, if_true, if_false]; done) | (simp only [upd_get, String.reduceEq, if_true, if_false]; first | assumption | rfl))
        · rw [Hp.set_same, hst, if_neg hs]; simp [oAV]
theorem CL_codes {x dx : Addr} {ma : Loc} {bA : Addr} {bl : List Blk} {Q : AV → Hp → Prop} (G : Gnd (KW w) B) (hh : A.handled = none) (hroom : A.depth + 1 < recursionLimit) (hlen : bl.length ≤ 100) (I : Ins hp env.locals x dx 242 ma) (ho : ma (S "opcodes") = some .none)
    (hb : ma (S "matching_blocks") = some (.ref bA)) (hn : ma (S "get_matching_blocks") = none) (hl : Lst B hp env.locals bA (bl.map bAV))
    (h : ∀ a, hp a = none → a ≠ env.locals → a ≠ dx → Q (.ref a) ((hp.set dx (.atr (upd ma (S "opcodes") (.ref a)))).set a (.list ((opsOf bl).map oAV)))) :
    CL (model PW w) A E B env (.ref 210) m [.ref x] hp Q := by
  refine CD.cl (CD_fn (bs := [(S "self", .ref x)]) (body := dBody (mS 8)) G (kCodes w) (by kernel_rfl) rfl (by omega) (fun s vs hv _ => ?_) (by kernel_rfl) (by decide) (fun L hL hLe => ?_))
  · obtain ⟨v, rfl, h1⟩ := VRs_one hv
    exact ⟨[(S "self", v)], BindsTo.of_eq rfl, rfl, VRs.one h1⟩
  · have I' : Ins (hp.set env.locals (.ns m)) L x dx 242 ma := I.call hL
    have hl' : Lst B (hp.set env.locals (.ns m)) L bA (bl.map bAV) := hl.call hL
    have hdl : ∀ ys, (hp.set env.locals (.ns m)) dx ≠ some (.list ys) := fun ys e => by rw [I'.at_] at e; cases e
    have hLc : (hp.set env.locals (.ns m)) L = none := by rw [Hp.set_ne _ _ hLe]; exact hL
    have g0 : locOf [(S "self", AV.ref x)] (S "self") = some (.ref x) := by simp only [locOf_get, if_true]
    generalize hm0 : locOf [(S "self", AV.ref x)] = m0 at *
    conv => arg 6; whnf
    refine EXs_cons (EX_doc ?_)
    refine EXs_cons ?_
    refine EX_If ?_
    refine TST_Compare1 ?_
    refine EV_self G g0 I' ho ?_
    refine EV_none ?_
    refine OP_isNotNone ?_
    refine TRU_bool ?_
    rw [show (!AV.isNone .none) = false from rfl, if_neg Bool.false_ne_true]
    refine EXs_nil ?_
    refine EXs_cons (EX_Assign2 (EV_int (ASG_Name (ASG_Name ?_))))
    refine EXs_cons (EX_Assign2 (EV_List (EVS_nil ⟨sz rfl, fun aA haA haL => ASG_self G (by (first | assumption | (simp only [upd_get, String.reduceEq, if_true, if_false]; done) | (simp only [upd_get, String.reduceEq, if_true, if_false]; first | assumption | rfl))) (I'.le ((Hp.Le.refl _).set haA _)) (ASG_Name ?_)⟩)))
    have hadx : aA ≠ dx := fun e => by rw [e, I'.at_] at haA; cases haA
    generalize hhb : (hp.set env.locals (.ns m)).set dx (.atr (upd ma (S "opcodes") (.ref aA))) = hb'
    have hba : hb' aA = none := by rw [← hhb, Hp.set_ne _ _ hadx]; exact haA
    have e1 : ((hp.set env.locals (.ns m)).set aA (.list [])).set dx (.atr (upd ma (S "opcodes") (.ref aA))) = hb'.set aA (.list []) := by rw [← hhb, Hp.set_comm _ _ _ hadx]
    rw [e1]
    have I1 : Ins hb' L x dx 242 (upd ma (S "opcodes") (.ref aA)) := by rw [← hhb]; exact I'.put
    have hl1 : Lst B hb' L bA (bl.map bAV) := by rw [← hhb]; exact hl'.put hdl
    refine EXs_seq (fun m' hp' => m' (S "answer") = some (.ref aA) ∧ hp' aA = some (.list ((opsOf bl).map oAV)) ∧ Hp.Le hb' hp') ?_ ?_
    · refine EX_ForL hh (EV_meth0 G (clsS w) (f := 203) (by kernel_rfl) (by kernel_rfl) (by kernel_rfl) (EV_local (v := .ref x) (by (first | assumption | (simp only [upd_get, String.reduceEq, if_true, if_false]; done) | (simp only [upd_get, String.reduceEq, if_true, if_false]; first | assumption | rfl))) ⟨x, dx, _, rfl, I1.le ((Hp.Le.refl _).set hba _), by (first | assumption | (simp only [upd_get, String.reduceEq, if_true, if_false]; done) | (simp only [upd_get, String.reduceEq, if_true, if_false]; first | assumption | rfl)), ?_⟩))
      refine CL_mb (A := A.deeper (callEnv fdCodes L 210)) G (by show A.depth + 1 < _; omega) (I1.le ((Hp.Le.refl _).set hba _)) (by (first | assumption | (simp only [upd_get, String.reduceEq, if_true, if_false]; done) | (simp only [upd_get, String.reduceEq, if_true, if_false]; first | assumption | rfl))) ?_
      refine ⟨bA, bl.map bAV, rfl, hl1.le ((Hp.Le.refl _).set hba _), fun it hit hitL => ?_⟩
      have hai : aA ≠ it := Hp.ne_of (Hp.set_same ..) hit
      have hitb : hb' it = none := by rw [Hp.set_ne _ _ (Ne.symm hai)] at hit; exact hit
      refine ⟨IC hb' L it aA bl, fun ob => ?_, fun i m₂ hp₂ ob x => x.set hitb hai ob, fun i m₂ hp₂ x => hl1.le x.2.2.2.2, fun i y m₂ hp₂ ob hy x hob => ?_, fun m₂ hp₂ x => ?_⟩
      · refine ⟨by (first | assumption | (simp only [upd_get, String.reduceEq, if_true, if_false]; done) | (simp only [upd_get, String.reduceEq, if_true, if_false]; first | assumption | rfl)), by (first | assumption | (simp only [upd_get, String.reduceEq, if_true, if_false]; done) | (simp only [upd_get, String.reduceEq, if_true, if_false]; first | assumption | rfl)), by (first | assumption | (simp only [upd_get, String.reduceEq, if_true, if_false]; done) | (simp only [upd_get, String.reduceEq, if_true, if_false]; first | assumption | rfl)), ?_, ((Hp.Le.refl _).set hba _).set hitb _⟩
        rw [Hp.set_ne _ _ hai, Hp.set_same]; rfl
      · obtain ⟨b, hbk, rfl⟩ : ∃ b, bl[i]? = some b ∧ bAV b = y := by
          rw [List.getElem?_map] at hy
          exact Option.map_eq_some_iff.mp hy
        refine ASG.mono (codes_turn (Q := fun _ _ _ => False) (A := A.deeper (callEnv fdCodes L 210)) hh hlen hbk x hba haL hai hob) fun m' hp' hx => hx.mono fun f m4 hp4 hq => ?_
        cases f <;> first | exact hq | exact hq.elim
      · obtain ⟨h1, h2, h3, h4, h5⟩ := x
        rw [List.length_map] at h4
        exact ⟨rfl, h1, by rw [Hp.del_ne _ hai, opsOf_eq]; exact h4, h5.del hitb⟩
    · rintro m1 hp1 ⟨f1, f2, f3⟩
      refine EXs_cons ?_
      refine EX_Return ?_
      refine EV_local (by (first | assumption | (simp only [upd_get, String.reduceEq, if_true, if_false]; done) | (simp only [upd_get, String.reduceEq, if_true, if_false]; first | assumption | rfl))) ?_
      have haE : aA ≠ env.locals := fun e => by rw [e, Hp.set_same] at haA; cases haA
      have hda : dx ≠ aA := Ne.symm hadx
      refine ret_ok (hp₂ := (hp.set dx (.atr (upd ma (S "opcodes") (.ref aA)))).set aA (.list ((opsOf bl).map oAV))) (fun z o hz => ?_) ?_ (h aA (by rw [Hp.set_ne _ _ haE] at haA; exact haA) haE hadx)
      · rw [Hp.set_comm _ _ _ haE, Hp.set_comm _ _ _ I.dL, hhb] at hz
        by_cases hza : z = aA
        · subst hza; rw [Hp.set_same] at hz; rw [f2]; exact hz
        · rw [Hp.set_ne _ _ hza] at hz; exact f3 _ _ hz
      · rw [Hp.set_ne _ _ (show L ≠ aA from Ne.symm haL), Hp.set_ne _ _ (Ne.symm I'.dL)]; exact hL
end
end Mine

open PySem PySem.W PyProof.Rows PySem.Calls
set_option maxRecDepth 100000
namespace Mine
abbrev imax (a b : Int) : Int := if b > a then b else a
abbrev imin (a b : Int) : Int := if b < a then b else a
def headTrim (n : Int) (l : List Op) : List Op := match l with
  | (t, i1, i2, j1, j2) :: r => if t = "equal" then (t, imax i1 (i2 - n), i2, imax j1 (j2 - n), j2) :: r else l
  | [] => []
def lastTrim (n : Int) (l : List Op) : List Op := match l.getLast? with
  | some (t, i1, i2, j1, j2) => if t = "equal" then l.dropLast ++ [(t, i1, imin i2 (i1 + n), j1, imin j2 (j1 + n))] else l
  | none => []
def codesIn (n : Int) (l : List Op) : List Op := lastTrim n (headTrim n (if l = [] then [("equal", 0, 1, 0, 1)] else l))
abbrev GSt := List (List Op) × List Op
def stepG (n : Int) (st : GSt) (o : Op) : GSt :=
  if o.1 = "equal" ∧ o.2.2.1 - o.2.1 > n + n then
    (st.1 ++ [st.2 ++ [(o.1, o.2.1, imin o.2.2.1 (o.2.1 + n), o.2.2.2.1, imin o.2.2.2.2 (o.2.2.2.1 + n))]], [(o.1, imax o.2.1 (o.2.2.1 - n), o.2.2.1, imax o.2.2.2.1 (o.2.2.2.2 - n), o.2.2.2.2)])
  else (st.1, st.2 ++ [o])
def groupsOf (n : Int) (l : List Op) : List (List Op) :=
  let st := (codesIn n l).foldl (stepG n) ([], [])
  if st.2 = [] ∨ (st.2.length = 1 ∧ (st.2.head?.map (·.1)) = some "equal") then st.1 else st.1 ++ [st.2]
theorem blt_max : bootBuiltins (PySem.Str.ofString "max") = some (.builtin "max") := by boot_fast
theorem blt_min : bootBuiltins (PySem.Str.ofString "min") = some (.builtin "min") := by boot_fast
theorem no_max (w : World) : nsIn (KW w) mainGlobals (S "max") = some none := by kernel_rfl
theorem no_min (w : World) : nsIn (KW w) mainGlobals (S "min") = some none := by kernel_rfl
def grpS (i : Nat) : Stmt := (dBody (mS 9)).getD i (.Pass ⟨0, 0, 0, 0⟩)
section
variable {w : World} {A : Around} {E : Value → Shared → Prop} {B : Shared} {env : Env} {m : Loc} {hp : Hp}
theorem trim_head {L cA : Addr} {n : Int} {l : List Op} (G : Gnd (KW w) B) (hh : A.handled = none) (h1 : m (S "codes") = some (.ref cA)) (h2 : m (S "n") = some (.int n)) (hc : hp cA = some (.list (l.map oAV))) (hcL : cA ≠ L) (hne : l ≠ []) (hlen : l.length ≤ 1000) :
    EX (model PW w) A E B (callEnv fdGrp L 218) (grpS 3) m hp fun f m' hp' => f = .next ∧ m' (S "codes") = some (.ref cA) ∧ m' (S "n") = some (.int n) ∧ hp' = hp.set cA (.list ((headTrim n l).map oAV)) := by
  conv => arg 6; whnf
  cases l with
  | nil => exact absurd rfl hne
  | cons o r =>
    obtain ⟨t, i1, i2, j1, j2⟩ := o
    have hl : Lst B hp L cA (((t, i1, i2, j1, j2) :: r).map oAV) := .own hc hcL
    refine EX_If ?_
    refine TST_Compare1 ?_
    refine EV_Subscript ?_
    refine EV_Subscript ?_
    refine EV_local (by (first | assumption | (simp only [upd_get, String.reduceEq, if_true, if_false]; done) | (simp only [upd_get, String.reduceEq, if_true, if_false]; first | assumption | rfl))) ?_
    refine EV_int ?_
    refine SUB_list hl (by decide) (by decide) (x := oAV (t, i1, i2, j1, j2)) rfl ?_
    refine EV_int ?_
    refine SUB_tup (j := 0) (x := .str (S t)) (by decide) (by decide) rfl rfl ?_
    refine EV_strc ?_
    refine OP_eqs ?_
    refine TRU_bool ?_
    have et : (S t == PySem.Str.ofString "equal") = decide (t = "equal") := by
      by_cases e : t = "equal"
      · subst e; simp
      · have : S t ≠ PySem.Str.ofString "equal" := fun h => e (ofString_inj h)
        simp [this, e]
    rw [et]
    by_cases e : t = "equal"
    · rw [decide_eq_true e, if_pos rfl]
      refine EXs_cons (EX_AssignT ?_)
      refine EV_Subscript ?_
      refine EV_local (by (first | assumption | (simp only [upd_get, String.reduceEq, if_true, if_false]; done) | (simp only [upd_get, String.reduceEq, if_true, if_false]; first | assumption | rfl))) ?_
      refine EV_int ?_
      refine SUB_list hl (by decide) (by decide) (x := oAV (t, i1, i2, j1, j2)) rfl ?_
      refine ASG_Tuple hh rfl rfl rfl (ASGS_cons (ASG_Name (ASGS_cons (ASG_Name (ASGS_cons (ASG_Name (ASGS_cons (ASG_Name (ASGS_cons (ASG_Name (ASGS_nil ?_)))))))))))
      refine EXs_cons ?_
      refine EX_AssignI ?_
      refine EV_Tuple ?_
      refine EVS_cons ?_
      refine EV_local (by (first | assumption | (simp only [upd_get, String.reduceEq, if_true, if_false]; done) | (simp only [upd_get, String.reduceEq, if_true, if_false]; first | assumption | rfl))) ?_
      refine EVS_cons ?_
      refine EV_CallB (EV_blt G (no_max w) blt_max (by decide) (fun _ => VR_bi) ⟨rfl, ?_⟩)
      refine EVS_cons ?_
      refine EV_local (by (first | assumption | (simp only [upd_get, String.reduceEq, if_true, if_false]; done) | (simp only [upd_get, String.reduceEq, if_true, if_false]; first | assumption | rfl))) ?_
      refine EVS_cons ?_
      refine EV_BinOp ?_
      refine EV_local (by (first | assumption | (simp only [upd_get, String.reduceEq, if_true, if_false]; done) | (simp only [upd_get, String.reduceEq, if_true, if_false]; first | assumption | rfl))) ?_
      refine EV_local (by (first | assumption | (simp only [upd_get, String.reduceEq, if_true, if_false]; done) | (simp only [upd_get, String.reduceEq, if_true, if_false]; first | assumption | rfl))) ?_
      refine OP_sub ?_
      refine EVS_nil ?_
      refine CL_max hh ?_
      refine EVS_cons ?_
      refine EV_local (by (first | assumption | (simp only [upd_get, String.reduceEq, if_true, if_false]; done) | (simp only [upd_get, String.reduceEq, if_true, if_false]; first | assumption | rfl))) ?_
      refine EVS_cons ?_
      refine EV_CallB (EV_blt G (no_max w) blt_max (by decide) (fun _ => VR_bi) ⟨rfl, ?_⟩)
      refine EVS_cons ?_
      refine EV_local (by (first | assumption | (simp only [upd_get, String.reduceEq, if_true, if_false]; done) | (simp only [upd_get, String.reduceEq, if_true, if_false]; first | assumption | rfl))) ?_
      refine EVS_cons ?_
      refine EV_BinOp ?_
      refine EV_local (by (first | assumption | (simp only [upd_get, String.reduceEq, if_true, if_false]; done) | (simp only [upd_get, String.reduceEq, if_true, if_false]; first | assumption | rfl))) ?_
      refine EV_local (by (first | assumption | (simp only [upd_get, String.reduceEq, if_true, if_false]; done) | (simp only [upd_get, String.reduceEq, if_true, if_false]; first | assumption | rfl))) ?_
      refine OP_sub ?_
      refine EVS_nil ?_
      refine CL_max hh ?_
      refine EVS_cons ?_
      refine EV_local (by (first | assumption | (simp only [upd_get, String.reduceEq, if_true, if_false]; done) | (simp only [upd_get, String.reduceEq, if_true, if_false]; first | assumption | rfl))) ?_
      refine EVS_nil ?_
      refine ⟨sz rfl, ?_⟩
      refine ASG_item ?_
      refine EV_local (by (first | assumption | (simp only [upd_get, String.reduceEq, if_true, if_false]; done) | (simp only [upd_get, String.reduceEq, if_true, if_false]; first | assumption | rfl))) ?_
      refine EV_int ?_
      refine ⟨cA, _, 0, rfl, rfl, hc, hcL, .inr ⟨by decide, by simp, by decide⟩, ?_⟩
      refine EXs_nil ?_
      refine ⟨rfl, by (first | assumption | (simp only [upd_get, String.reduceEq, if_true, if_false]; done) | (simp only [upd_get, String.reduceEq, if_true, if_false]; first | assumption | rfl)), by (first | assumption | (simp only [upd_get, String.reduceEq, if_true, if_false]; done) | (simp only [upd_get, String.reduceEq, if_true, if_false]; first | assumption | rfl)), ?_⟩
      simp [stored, headTrim, e, oAV]
    · rw [decide_eq_false e, if_neg Bool.false_ne_true]
      refine EXs_nil ?_
      refine ⟨rfl, h1, h2, ?_⟩
      rw [show headTrim n ((t, i1, i2, j1, j2) :: r) = (t, i1, i2, j1, j2) :: r from by simp [headTrim, e]]
      funext z
      by_cases hz : z = cA
      · subst hz; rw [Hp.set_same]; exact hc
      · rw [Hp.set_ne _ _ hz]
theorem trim_last {L cA : Addr} {n : Int} {l : List Op} (G : Gnd (KW w) B) (hh : A.handled = none) (h1 : m (S "codes") = some (.ref cA)) (h2 : m (S "n") = some (.int n)) (hc : hp cA = some (.list (l.map oAV))) (hcL : cA ≠ L) (hne : l ≠ []) (hlen : l.length ≤ 1000) :
    EX (model PW w) A E B (callEnv fdGrp L 218) (grpS 4) m hp fun f m' hp' => f = .next ∧ m' (S "codes") = some (.ref cA) ∧ m' (S "n") = some (.int n) ∧ hp' = hp.set cA (.list ((lastTrim n l).map oAV)) := by
  conv => arg 6; whnf
  rcases List.eq_nil_or_concat l with hb | ⟨ini, o, hb⟩
  · exact absurd hb hne
  · rw [List.concat_eq_append] at hb
    subst hb
    obtain ⟨t, i1, i2, j1, j2⟩ := o
    have hl : Lst B hp L cA ((ini ++ [(t, i1, i2, j1, j2)]).map oAV) := .own hc hcL
    have hx : ((ini ++ [(t, i1, i2, j1, j2)]).map oAV)[((-1 : Int) + (((ini ++ [(t, i1, i2, j1, j2)]).map oAV).length : Nat)).toNat]? = some (oAV (t, i1, i2, j1, j2)) := by
      have : ((-1 : Int) + (((ini ++ [(t, i1, i2, j1, j2)]).map oAV).length : Nat)).toNat = ini.length := by simp; omega
      rw [this]; simp
    have hge : -((((ini ++ [(t, i1, i2, j1, j2)]).map oAV).length : Nat) : Int) ≤ -1 := by simp; omega
    refine EX_If ?_
    refine TST_Compare1 ?_
    refine EV_Subscript ?_
    refine EV_Subscript ?_
    refine EV_local (by (first | assumption | (simp only [upd_get, String.reduceEq, if_true, if_false]; done) | (simp only [upd_get, String.reduceEq, if_true, if_false]; first | assumption | rfl))) ?_
    (refine EV_neg ?_)
    refine EV_int ?_
    refine ⟨_, rfl, SUB_listNeg hl (by decide) (by decide) hge hx ?_⟩
    refine EV_int ?_
    refine SUB_tup (j := 0) (x := .str (S t)) (by decide) (by decide) rfl rfl ?_
    refine EV_strc ?_
    refine OP_eqs ?_
    refine TRU_bool ?_
    have et : (S t == PySem.Str.ofString "equal") = decide (t = "equal") := by
      by_cases e : t = "equal"
      · subst e; simp
      · have : S t ≠ PySem.Str.ofString "equal" := fun h => e (ofString_inj h)
        simp [this, e]
    rw [et]
    by_cases e : t = "equal"
    · rw [decide_eq_true e, if_pos rfl]
      refine EXs_cons (EX_AssignT ?_)
      refine EV_Subscript ?_
      refine EV_local (by (first | assumption | (simp only [upd_get, String.reduceEq, if_true, if_false]; done) | (simp only [upd_get, String.reduceEq, if_true, if_false]; first | assumption | rfl))) ?_
      (refine EV_neg ?_)
      refine EV_int ?_
      refine ⟨_, rfl, SUB_listNeg hl (by decide) (by decide) hge hx ?_⟩
      refine ASG_Tuple hh rfl rfl rfl (ASGS_cons (ASG_Name (ASGS_cons (ASG_Name (ASGS_cons (ASG_Name (ASGS_cons (ASG_Name (ASGS_cons (ASG_Name (ASGS_nil ?_)))))))))))
      refine EXs_cons ?_
      refine EX_AssignI ?_
      refine EV_Tuple ?_
      refine EVS_cons ?_
      refine EV_local (by (first | assumption | (simp only [upd_get, String.reduceEq, if_true, if_false]; done) | (simp only [upd_get, String.reduceEq, if_true, if_false]; first | assumption | rfl))) ?_
      refine EVS_cons ?_
      refine EV_local (by (first | assumption | (simp only [upd_get, String.reduceEq, if_true, if_false]; done) | (simp only [upd_get, String.reduceEq, if_true, if_false]; first | assumption | rfl))) ?_
      refine EVS_cons ?_
      refine EV_CallB (EV_blt G (no_min w) blt_min (by decide) (fun _ => VR_bi) ⟨rfl, ?_⟩)
      refine EVS_cons ?_
      refine EV_local (by (first | assumption | (simp only [upd_get, String.reduceEq, if_true, if_false]; done) | (simp only [upd_get, String.reduceEq, if_true, if_false]; first | assumption | rfl))) ?_
      refine EVS_cons ?_
      refine EV_BinOp ?_
      refine EV_local (by (first | assumption | (simp only [upd_get, String.reduceEq, if_true, if_false]; done) | (simp only [upd_get, String.reduceEq, if_true, if_false]; first | assumption | rfl))) ?_
      refine EV_local (by (first | assumption | (simp only [upd_get, String.reduceEq, if_true, if_false]; done) | (simp only [upd_get, String.reduceEq, if_true, if_false]; first | assumption | rfl))) ?_
      refine OP_add ?_
      refine EVS_nil ?_
      refine CL_min hh ?_
      refine EVS_cons ?_
      refine EV_local (by (first | assumption | (simp only [upd_get, String.reduceEq, if_true, if_false]; done) | (simp only [upd_get, String.reduceEq, if_true, if_false]; first | assumption | rfl))) ?_
      refine EVS_cons ?_
      refine EV_CallB (EV_blt G (no_min w) blt_min (by decide) (fun _ => VR_bi) ⟨rfl, ?_⟩)
      refine EVS_cons ?_
      refine EV_local (by (first | assumption | (simp only [upd_get, String.reduceEq, if_true, if_false]; done) | (simp only [upd_get, String.reduceEq, if_true, if_false]; first | assumption | rfl))) ?_
      refine EVS_cons ?_
      refine EV_BinOp ?_
      refine EV_local (by (first | assumption | (simp only [upd_get, String.reduceEq, if_true, if_false]; done) | (simp only [upd_get, String.reduceEq, if_true, if_false]; first | assumption | rfl))) ?_
      refine EV_local (by (first | assumption | (simp only [upd_get, String.reduceEq, if_true, if_false]; done) | (simp only [upd_get, String.reduceEq, if_true, if_false]; first | assumption | rfl))) ?_
      refine OP_add ?_
      refine EVS_nil ?_
      refine CL_min hh ?_
      refine EVS_nil ?_
      refine ⟨sz rfl, ?_⟩
      refine ASG_item ?_
      refine EV_local (by (first | assumption | (simp only [upd_get, String.reduceEq, if_true, if_false]; done) | (simp only [upd_get, String.reduceEq, if_true, if_false]; first | assumption | rfl))) ?_
      (refine EV_neg ?_)
      refine EV_int ?_
      refine ⟨_, rfl, cA, _, -1, rfl, rfl, hc, hcL, .inl ⟨rfl, by simp⟩, ?_⟩
      refine EXs_nil ?_
      refine ⟨rfl, by (first | assumption | (simp only [upd_get, String.reduceEq, if_true, if_false]; done) | (simp only [upd_get, String.reduceEq, if_true, if_false]; first | assumption | rfl)), by (first | assumption | (simp only [upd_get, String.reduceEq, if_true, if_false]; done) | (simp only [upd_get, String.reduceEq, if_true, if_false]; first | assumption | rfl)), ?_⟩
      congr 2
      simp [stored, lastTrim, e, oAV, List.set_append]
    · rw [decide_eq_false e, if_neg Bool.false_ne_true]
      refine EXs_nil ?_
      refine ⟨rfl, h1, h2, ?_⟩
      rw [show lastTrim n (ini ++ [(t, i1, i2, j1, j2)]) = ini ++ [(t, i1, i2, j1, j2)] from by simp [lastTrim, e]]
      funext z
      by_cases hz : z = cA
      · subst hz; rw [Hp.set_same]; exact hc
      · rw [Hp.set_ne _ _ hz]
end
end Mine

open PySem PySem.W PyProof.Rows PySem.Calls
set_option maxRecDepth 100000
namespace Mine
def Ls (hp : Hp) (ys : List Addr) (gs : List (List Op)) : Prop := ys.length = gs.length ∧ ∀ (i : Nat) (y : Addr) (g : List Op), ys[i]? = some y → gs[i]? = some g → hp y = some (.list (g.map oAV))
theorem Ls.set {hp : Hp} {ys : List Addr} {gs : List (List Op)} (h : Ls hp ys gs) {a : Addr} (ha : a ∉ ys) (o : AO) : Ls (hp.set a o) ys gs :=
  ⟨h.1, fun i y g hy hg => by rw [Hp.set_ne _ _ (show y ≠ a from fun e => ha (e ▸ List.mem_of_getElem? hy))]; exact h.2 i y g hy hg⟩
theorem Ls.del {hp : Hp} {ys : List Addr} {gs : List (List Op)} (h : Ls hp ys gs) {a : Addr} (ha : a ∉ ys) : Ls (hp.del a) ys gs :=
  ⟨h.1, fun i y g hy hg => by rw [Hp.del_ne _ (show y ≠ a from fun e => ha (e ▸ List.mem_of_getElem? hy))]; exact h.2 i y g hy hg⟩
theorem Ls.snoc {hp : Hp} {ys : List Addr} {gs : List (List Op)} (h : Ls hp ys gs) {a : Addr} {g : List Op} (ha : hp a = some (.list (g.map oAV))) : Ls hp (ys ++ [a]) (gs ++ [g]) := by
  refine ⟨by simp [h.1], fun i y g' hy hg => ?_⟩
  rcases Nat.lt_or_ge i ys.length with hi | hi
  · rw [List.getElem?_append_left hi] at hy
    rw [List.getElem?_append_left (by rw [← h.1]; exact hi)] at hg
    exact h.2 i y g' hy hg
  · rw [List.getElem?_append_right hi] at hy
    rw [List.getElem?_append_right (by rw [← h.1]; exact hi)] at hg
    have e : i - ys.length = 0 := by
      cases hh : i - ys.length with
      | zero => rfl
      | succ k => rw [hh] at hy; simp at hy
    rw [e] at hy
    rw [← h.1, e] at hg
    simp only [List.getElem?_cons_zero, Option.some.injEq] at hy hg
    subst hy; subst hg; exact ha
theorem Ls.mem {hp : Hp} {ys : List Addr} {gs : List (List Op)} (h : Ls hp ys gs) {y : Addr} (hy : y ∈ ys) : ∃ g, hp y = some (.list (List.map oAV g)) := by
  obtain ⟨i, hi⟩ := List.getElem?_of_mem hy
  have hlt : i < ys.length := by
    rcases Nat.lt_or_ge i ys.length with h' | h'
    · exact h'
    · rw [List.getElem?_eq_none h'] at hi; cases hi
  exact ⟨_, h.2 i y (gs[i]'(by rw [← h.1]; exact hlt)) hi (List.getElem?_eq_getElem _)⟩
theorem Ls.fresh {hp : Hp} {ys : List Addr} {gs : List (List Op)} (h : Ls hp ys gs) {a : Addr} (ha : hp a = none) : a ∉ ys := fun hm => by
  obtain ⟨g, e⟩ := h.mem hm; rw [ha] at e; cases e
structure GI (hb : Hp) (L sA it : Addr) (n : Int) (st : GSt) (gA : Addr) (ys : List Addr) (m : Loc) (hp : Hp) : Prop where
  hn : m (S "n") = some (.int n)
  hnn : m (S "nn") = some (.int (n + n))
  hg : m (S "group") = some (.ref gA)
  gl : hp gA = some (.list (st.2.map oAV))
  sl : hp sA = some (.list (ys.map .ref))
  ls : Ls hp ys st.1
  gS : gA ≠ sA
  gy : gA ∉ ys
  sy : sA ∉ ys
  bg : hb gA = none
  bs : hb sA = none
  le : Hp.Le hb hp
  gL : gA ≠ L
  sL : sA ≠ L
  gi : gA ≠ it
  si : sA ≠ it
  iy : it ∉ ys
  yL : ∀ y ∈ ys, y ≠ L
  len : st.1.length + st.2.length ≤ 1000
theorem GI.set {hb : Hp} {L sA it : Addr} {n : Int} {st : GSt} {gA : Addr} {ys : List Addr} {m : Loc} {hp : Hp} (x : GI hb L sA it n st gA ys m hp) (hbi : hb it = none) (ob : Obj) : GI hb L sA it n st gA ys m (hp.set it (.obj ob)) :=
  { x with gl := by rw [Hp.set_ne _ _ x.gi]; exact x.gl, sl := by rw [Hp.set_ne _ _ x.si]; exact x.sl, ls := x.ls.set x.iy _, le := x.le.set hbi _ }
def stG (n : Int) (cs : List Op) (k : Nat) : GSt := (cs.take k).foldl (stepG n) ([], [])
theorem stG_succ {n : Int} {cs : List Op} {k : Nat} {o : Op} (h : cs[k]? = some o) : stG n cs (k + 1) = stepG n (stG n cs k) o := foldl_take_succ h
theorem stG_len {n : Int} {cs : List Op} : ∀ k, (stG n cs k).1.length ≤ k ∧ (stG n cs k).2.length ≤ k
  | 0 => by simp [stG]
  | k + 1 => by
    have ih := stG_len (n := n) (cs := cs) k
    cases h : cs[k]? with
    | none =>
      have hk : cs.length ≤ k := List.getElem?_eq_none_iff.mp h
      have : stG n cs (k + 1) = stG n cs k := by unfold stG; rw [List.take_of_length_le (by omega), List.take_of_length_le hk]
      rw [this]; omega
    | some b =>
      rw [stG_succ h]
      simp only [stepG]
      split
      · simp; omega
      · simp; omega
end Mine

open PySem PySem.W PyProof.Rows PySem.Calls
set_option maxRecDepth 100000
namespace Mine
def forT : Expr := match grpS 7 with | .For t _ _ _ _ => t | _ => .Name (S "") ⟨0, 0, 0, 0⟩
def forB : List Stmt := match grpS 7 with | .For _ _ b _ _ => b | _ => []
section
variable {w : World} {A : Around} {B : Shared} {m : Loc} {hp : Hp}
theorem str_eq_dec (t : String) : (S t == PySem.Str.ofString "equal") = decide (t = "equal") := by
  by_cases e : t = "equal"
  · subst e; simp
  · have : S t ≠ PySem.Str.ofString "equal" := fun h => e (ofString_inj h)
    simp [this, e]
theorem groups_tail {h0 : Heap} {hk hb : Hp} {L sA it gA : Addr} {ys : List Addr} {F : Hp → Prop} {N n' : Nat} {c : Code} {fs : List Frame} {K : Flow → Sem PySem.Fin} {H : Value → Sem PySem.Fin} {n : Int} {st st' : GSt} {t : String} {i1 i2 j1 j2 : Int} {ob : Obj}
    (I : GI hb L sA it n st gA ys m hp) (hit : hp it = some (.obj ob)) (g1 : m (S "tag") = some (.str (S t))) (g2 : m (S "i1") = some (.int i1)) (g3 : m (S "i2") = some (.int i2)) (g4 : m (S "j1") = some (.int j1)) (g5 : m (S "j2") = some (.int j2))
    (hst : st' = (st.1, st.2 ++ [(t, i1, i2, j1, j2)])) (hl' : st'.1.length + st'.2.length ≤ 1000) (hN : N ≤ n')
    (cont : ∀ n' m₄ hp₄ gA' ys', N ≤ n' → GI hb L sA it n st' gA' ys' m₄ hp₄ → hp₄ it = some (.obj ob) → GF PW w A B (callEnv fdGrp L 218) h0 hk sA F n' c fs K .next m₄ hp₄) :
    GS PW w A B (callEnv fdGrp L 218) h0 hk sA F n' c fs K H (forB.drop 1) m hp := by
  conv => arg 13; whnf
  refine GS_cons (EX_Expr (EV_append (EV_local I.hg ⟨gA, _, rfl, I.gl, I.gL, ?_⟩)))
  refine EVS_cons ?_
  refine EV_Tuple ?_
  refine EVS_cons ?_
  refine EV_local (by (first | assumption | (simp only [upd_get, String.reduceEq, if_true, if_false]; done) | (simp only [upd_get, String.reduceEq, if_true, if_false]; first | assumption | rfl))) ?_
  refine EVS_cons ?_
  refine EV_local (by (first | assumption | (simp only [upd_get, String.reduceEq, if_true, if_false]; done) | (simp only [upd_get, String.reduceEq, if_true, if_false]; first | assumption | rfl))) ?_
  refine EVS_cons ?_
  refine EV_local (by (first | assumption | (simp only [upd_get, String.reduceEq, if_true, if_false]; done) | (simp only [upd_get, String.reduceEq, if_true, if_false]; first | assumption | rfl))) ?_
  refine EVS_cons ?_
  refine EV_local (by (first | assumption | (simp only [upd_get, String.reduceEq, if_true, if_false]; done) | (simp only [upd_get, String.reduceEq, if_true, if_false]; first | assumption | rfl))) ?_
  refine EVS_cons ?_
  refine EV_local (by (first | assumption | (simp only [upd_get, String.reduceEq, if_true, if_false]; done) | (simp only [upd_get, String.reduceEq, if_true, if_false]; first | assumption | rfl))) ?_
  refine EVS_nil ?_
  refine ⟨sz rfl, ?_⟩
  refine EVS_nil ?_
  have hlen := I.len
  refine ⟨_, _, rfl, I.gl, by rw [List.length_map]; exact sz' (by omega), by simp, by simp, by simp, ?_⟩
  refine GS_nil (cont n' _ _ gA ys hN ?_ (by rw [Hp.set_ne _ _ (Ne.symm I.gi)]; exact hit))
  exact { I with gl := by rw [Hp.set_same, hst]; simp [oAV], sl := by rw [Hp.set_ne _ _ (Ne.symm I.gS)]; exact I.sl, ls := by rw [hst]; exact I.ls.set I.gy _, le := I.le.set I.bg _, len := hl' }
theorem groups_turn {h0 : Heap} {hk hb : Hp} {L sA it gA : Addr} {ys : List Addr} {F : Hp → Prop} {N : Nat} {c : Code} {fs : List Frame} {K : Flow → Sem PySem.Fin} {H : Value → Sem PySem.Fin} {n : Int} {cs : List Op} {k : Nat} {o : Op} {ob : Obj}
    (G : Gnd (KW w) B) (hh : (A.over c fs).handled = none) (hfs : splitAtGen fs = none) (hfg : fs.any Frame.guarded = false) (hlen : cs.length ≤ 300) (ho : cs[k]? = some o) (hkb : Hp.Le hk hb)
    (I : GI hb L sA it n (stG n cs k) gA ys m hp) (hbi : hb it = none) (hit : hp it = some (.obj ob))
    (cont : ∀ n' m₄ hp₄ gA' ys', N ≤ n' → GI hb L sA it n (stG n cs (k + 1)) gA' ys' m₄ hp₄ → hp₄ it = some (.obj ob) → GF PW w A B (callEnv fdGrp L 218) h0 hk sA F n' c fs K .next m₄ hp₄) :
    ASG (model PW w) (A.over c fs) (fun _ _ => False) B (callEnv fdGrp L 218) forT (oAV o) m hp fun m₃ hp₃ => GS PW w A B (callEnv fdGrp L 218) h0 hk sA F (N + 1) c fs K H forB m₃ hp₃ := by
  obtain ⟨t, i1, i2, j1, j2⟩ := o
  have hlg := stG_len (n := n) (cs := cs) k
  have hkl : k < cs.length := by
    rcases Nat.lt_or_ge k cs.length with h' | h'
    · exact h'
    · rw [List.getElem?_eq_none h'] at ho; cases ho
  have hst := stG_succ (n := n) ho
  conv => arg 6; whnf
  refine ASG_Tuple hh rfl rfl rfl (ASGS_cons (ASG_Name (ASGS_cons (ASG_Name (ASGS_cons (ASG_Name (ASGS_cons (ASG_Name (ASGS_cons (ASG_Name (ASGS_nil ?_)))))))))))
  conv => arg 13; whnf
  generalize hm1 : upd (upd (upd (upd (upd m _ _) _ _) _ _) _ _) _ _ = m1
  have g1 : m1 (S "tag") = some (.str (S t)) := by subst hm1; (first | assumption | (simp only [upd_get, String.reduceEq, if_true, if_false]; done) | (simp only [upd_get, String.reduceEq, if_true, if_false]; first | assumption | rfl))
  have g2 : m1 (S "i1") = some (.int i1) := by subst hm1; (first | assumption | (simp only [upd_get, String.reduceEq, if_true, if_false]; done) | (simp only [upd_get, String.reduceEq, if_true, if_false]; first | assumption | rfl))
  have g3 : m1 (S "i2") = some (.int i2) := by subst hm1; (first | assumption | (simp only [upd_get, String.reduceEq, if_true, if_false]; done) | (simp only [upd_get, String.reduceEq, if_true, if_false]; first | assumption | rfl))
  have g4 : m1 (S "j1") = some (.int j1) := by subst hm1; (first | assumption | (simp only [upd_get, String.reduceEq, if_true, if_false]; done) | (simp only [upd_get, String.reduceEq, if_true, if_false]; first | assumption | rfl))
  have g5 : m1 (S "j2") = some (.int j2) := by subst hm1; (first | assumption | (simp only [upd_get, String.reduceEq, if_true, if_false]; done) | (simp only [upd_get, String.reduceEq, if_true, if_false]; first | assumption | rfl))
  have g6 : m1 (S "n") = some (.int n) := by have := I.hn; subst hm1; (first | assumption | (simp only [upd_get, String.reduceEq, if_true, if_false]; done) | (simp only [upd_get, String.reduceEq, if_true, if_false]; first | assumption | rfl))
  have g7 : m1 (S "nn") = some (.int (n + n)) := by have := I.hnn; subst hm1; (first | assumption | (simp only [upd_get, String.reduceEq, if_true, if_false]; done) | (simp only [upd_get, String.reduceEq, if_true, if_false]; first | assumption | rfl))
  have g8 : m1 (S "group") = some (.ref gA) := by have := I.hg; subst hm1; (first | assumption | (simp only [upd_get, String.reduceEq, if_true, if_false]; done) | (simp only [upd_get, String.reduceEq, if_true, if_false]; first | assumption | rfl))
  clear hm1
  refine GS_if ?_
  refine TST_BoolOp ?_
  refine ALLT_And_cons ?_
  refine TST_Compare1 ?_
  refine EV_local (by (first | assumption | (simp only [upd_get, String.reduceEq, if_true, if_false]; done) | (simp only [upd_get, String.reduceEq, if_true, if_false]; first | assumption | rfl))) ?_
  refine EV_strc ?_
  refine OP_eqs ?_
  refine TRU_bool ?_
  rw [str_eq_dec]
  have hnoyield : ¬ (t = "equal" ∧ i2 - i1 > n + n) → GS PW w A B (callEnv fdGrp L 218) h0 hk sA F (N + 1) c fs (KK (callEnv fdGrp L 218) (forB.drop 1) K H) H [] m1 hp := fun hc => by
    refine GS_nil (GF_rest (groups_tail (N := N) (st := stG n cs k) (st' := stG n cs (k + 1)) (t := t) (i1 := i1) (i2 := i2) (j1 := j1) (j2 := j2) ⟨g6, g7, g8, I.gl, I.sl, I.ls, I.gS, I.gy, I.sy, I.bg, I.bs, I.le, I.gL, I.sL, I.gi, I.si, I.iy, I.yL, I.len⟩ hit g1 g2 g3 g4 g5 ?_ ?_ (Nat.le_succ _) cont))
    · rw [hst]; simp only [stepG]; rw [if_neg hc]
    · have := stG_len (n := n) (cs := cs) (k + 1); omega
  by_cases e : t = "equal"
  · rw [decide_eq_true e, if_pos rfl]
    refine ALLT_And_cons ?_
    refine TST_Compare1 ?_
    refine EV_BinOp ?_
    refine EV_local (by (first | assumption | (simp only [upd_get, String.reduceEq, if_true, if_false]; done) | (simp only [upd_get, String.reduceEq, if_true, if_false]; first | assumption | rfl))) ?_
    refine EV_local (by (first | assumption | (simp only [upd_get, String.reduceEq, if_true, if_false]; done) | (simp only [upd_get, String.reduceEq, if_true, if_false]; first | assumption | rfl))) ?_
    refine OP_sub ?_
    refine EV_local (by (first | assumption | (simp only [upd_get, String.reduceEq, if_true, if_false]; done) | (simp only [upd_get, String.reduceEq, if_true, if_false]; first | assumption | rfl))) ?_
    refine OP_gt ?_
    refine TRU_bool ?_
    by_cases hgt : n + n < i2 - i1
    · rw [decide_eq_true hgt, if_pos rfl]
      refine ALLT_And_nil ?_
      rw [if_pos rfl]
      have hfree : ∀ y, y ∈ ys → y ≠ gA := fun y hy e => I.gy (e ▸ hy)
      refine GS_cons (EX_Expr (EV_append (EV_local g8 ⟨gA, _, rfl, I.gl, I.gL, ?_⟩)))
      refine EVS_cons ?_
      refine EV_Tuple ?_
      refine EVS_cons ?_
      refine EV_local (by (first | assumption | (simp only [upd_get, String.reduceEq, if_true, if_false]; done) | (simp only [upd_get, String.reduceEq, if_true, if_false]; first | assumption | rfl))) ?_
      refine EVS_cons ?_
      refine EV_local (by (first | assumption | (simp only [upd_get, String.reduceEq, if_true, if_false]; done) | (simp only [upd_get, String.reduceEq, if_true, if_false]; first | assumption | rfl))) ?_
      refine EVS_cons ?_
      refine EV_CallB (EV_blt G (no_min w) blt_min (by decide) (fun _ => VR_bi) ⟨rfl, ?_⟩)
      refine EVS_cons ?_
      refine EV_local (by (first | assumption | (simp only [upd_get, String.reduceEq, if_true, if_false]; done) | (simp only [upd_get, String.reduceEq, if_true, if_false]; first | assumption | rfl))) ?_
      refine EVS_cons ?_
      refine EV_BinOp ?_
      refine EV_local (by (first | assumption | (simp only [upd_get, String.reduceEq, if_true, if_false]; done) | (simp only [upd_get, String.reduceEq, if_true, if_false]; first | assumption | rfl))) ?_
      refine EV_local (by (first | assumption | (simp only [upd_get, String.reduceEq, if_true, if_false]; done) | (simp only [upd_get, String.reduceEq, if_true, if_false]; first | assumption | rfl))) ?_
      refine OP_add ?_
      refine EVS_nil ?_
      refine CL_min hh ?_
      refine EVS_cons ?_
      refine EV_local (by (first | assumption | (simp only [upd_get, String.reduceEq, if_true, if_false]; done) | (simp only [upd_get, String.reduceEq, if_true, if_false]; first | assumption | rfl))) ?_
      refine EVS_cons ?_
      refine EV_CallB (EV_blt G (no_min w) blt_min (by decide) (fun _ => VR_bi) ⟨rfl, ?_⟩)
      refine EVS_cons ?_
      refine EV_local (by (first | assumption | (simp only [upd_get, String.reduceEq, if_true, if_false]; done) | (simp only [upd_get, String.reduceEq, if_true, if_false]; first | assumption | rfl))) ?_
      refine EVS_cons ?_
      refine EV_BinOp ?_
      refine EV_local (by (first | assumption | (simp only [upd_get, String.reduceEq, if_true, if_false]; done) | (simp only [upd_get, String.reduceEq, if_true, if_false]; first | assumption | rfl))) ?_
      refine EV_local (by (first | assumption | (simp only [upd_get, String.reduceEq, if_true, if_false]; done) | (simp only [upd_get, String.reduceEq, if_true, if_false]; first | assumption | rfl))) ?_
      refine OP_add ?_
      refine EVS_nil ?_
      refine CL_min hh ?_
      refine EVS_nil ?_
      refine ⟨sz rfl, ?_⟩
      refine EVS_nil ?_
      refine ⟨_, _, rfl, I.gl, by rw [List.length_map]; exact sz' (by omega), by simp, by simp, by simp, ?_⟩
      have hylen : ys.length = (stG n cs k).1.length := I.ls.1
      refine GS_yield hfs hfg (EV_local g8 ⟨ys.map .ref, by rw [Hp.set_ne _ _ (Ne.symm I.gS)]; exact I.sl, I.sL, by rw [List.length_map]; omega, hkb.trans (I.le.set I.bg _), ?_⟩)
      generalize hg' : (stG n cs k).2.map oAV ++ _ = gl'
      have hgl' : gl' = ((stG n cs k).2 ++ [(t, i1, imin i2 (i1 + n), j1, imin j2 (j1 + n))]).map oAV := by rw [← hg']; simp [oAV]
      refine GS_cons (EX_Assign (EV_List (EVS_nil ⟨sz rfl, fun bA hbA hbL => ?_⟩)))
      refine GS_cons (EX_AssignSw hh (names := [S "i1", S "j1"]) ?_)
      refine EV_Tuple ?_
      refine EVS_cons ?_
      refine EV_CallB (EV_blt G (no_max w) blt_max (by decide) (fun _ => VR_bi) ⟨rfl, ?_⟩)
      refine EVS_cons ?_
      refine EV_local (by (first | assumption | (simp only [upd_get, String.reduceEq, if_true, if_false]; done) | (simp only [upd_get, String.reduceEq, if_true, if_false]; first | assumption | rfl))) ?_
      refine EVS_cons ?_
      refine EV_BinOp ?_
      refine EV_local (by (first | assumption | (simp only [upd_get, String.reduceEq, if_true, if_false]; done) | (simp only [upd_get, String.reduceEq, if_true, if_false]; first | assumption | rfl))) ?_
      refine EV_local (by (first | assumption | (simp only [upd_get, String.reduceEq, if_true, if_false]; done) | (simp only [upd_get, String.reduceEq, if_true, if_false]; first | assumption | rfl))) ?_
      refine OP_sub ?_
      refine EVS_nil ?_
      refine CL_max hh ?_
      refine EVS_cons ?_
      refine EV_CallB (EV_blt G (no_max w) blt_max (by decide) (fun _ => VR_bi) ⟨rfl, ?_⟩)
      refine EVS_cons ?_
      refine EV_local (by (first | assumption | (simp only [upd_get, String.reduceEq, if_true, if_false]; done) | (simp only [upd_get, String.reduceEq, if_true, if_false]; first | assumption | rfl))) ?_
      refine EVS_cons ?_
      refine EV_BinOp ?_
      refine EV_local (by (first | assumption | (simp only [upd_get, String.reduceEq, if_true, if_false]; done) | (simp only [upd_get, String.reduceEq, if_true, if_false]; first | assumption | rfl))) ?_
      refine EV_local (by (first | assumption | (simp only [upd_get, String.reduceEq, if_true, if_false]; done) | (simp only [upd_get, String.reduceEq, if_true, if_false]; first | assumption | rfl))) ?_
      refine OP_sub ?_
      refine EVS_nil ?_
      refine CL_max hh ?_
      refine EVS_nil ?_
      refine ⟨sz rfl, ?_⟩
      refine ⟨_, rfl, rfl, ASGS_bind (ASGS_bind (ASGS_nil ?_))⟩
      dsimp only
      have hgb : gA ≠ bA := fun e => by rw [← e, Hp.set_ne _ _ I.gS, Hp.set_same] at hbA; cases hbA
      have hsb : sA ≠ bA := fun e => by rw [← e, Hp.set_same] at hbA; cases hbA
      have hbA' : hp bA = none := by rw [Hp.set_ne _ _ (Ne.symm hsb), Hp.set_ne _ _ (Ne.symm hgb)] at hbA; exact hbA
      have hbh : hb bA = none := I.le.none hbA'
      have hby : bA ∉ ys := I.ls.fresh hbA'
      have hbi' : bA ≠ it := Ne.symm (Hp.ne_of hit hbA')
      refine GS_nil (GF_rest (groups_tail (N := N) (st := ((stG n cs k).1 ++ [(stG n cs k).2 ++ [(t, i1, imin i2 (i1 + n), j1, imin j2 (j1 + n))]], [])) (st' := stG n cs (k + 1)) (t := t) (i1 := imax i1 (i2 - n)) (i2 := i2) (j1 := imax j1 (j2 - n)) (j2 := j2) (gA := bA) (ys := ys ++ [gA]) ⟨?_, ?_, ?_, ?_, ?_, ?_, ?_, ?_, ?_, ?_, ?_, ?_, ?_, ?_, ?_, ?_, ?_, ?_, ?_⟩ ?_ ?_ ?_ ?_ ?_ ?_ ?_ ?_ (Nat.le_refl _) cont))
      · (first | assumption | (simp only [upd_get, String.reduceEq, if_true, if_false]; done) | (simp only [upd_get, String.reduceEq, if_true, if_false]; first | assumption | rfl))
      · (first | assumption | (simp only [upd_get, String.reduceEq, if_true, if_false]; done) | (simp only [upd_get, String.reduceEq, if_true, if_false]; first | assumption | rfl))
      · (first | assumption | (simp only [upd_get, String.reduceEq, if_true, if_false]; done) | (simp only [upd_get, String.reduceEq, if_true, if_false]; first | assumption | rfl))
      · rw [Hp.set_same]; rfl
      · rw [Hp.set_ne _ _ hsb, Hp.set_same]; simp
      · refine Ls.snoc (((I.ls.set I.gy _).set I.sy _).set hby _) ?_
        rw [Hp.set_ne _ _ hgb, Hp.set_ne _ _ I.gS, Hp.set_same, hgl']
      · exact Ne.symm hsb
      · simp [hby, Ne.symm hgb]
      · simp [I.sy, Ne.symm I.gS]
      · exact hbh
      · exact I.bs
      · exact ((I.le.set I.bg _).set I.bs _).set hbh _
      · exact hbL
      · exact I.sL
      · exact hbi'
      · exact I.si
      · simp [I.iy, Ne.symm I.gi]
      · intro z hz; simp at hz; rcases hz with hz | rfl
        · exact I.yL z hz
        · exact I.gL
      · simp; omega
      · rw [Hp.set_ne _ _ (Ne.symm hbi'), Hp.set_ne _ _ (Ne.symm I.si), Hp.set_ne _ _ (Ne.symm I.gi)]; exact hit
      · (first | assumption | (simp only [upd_get, String.reduceEq, if_true, if_false]; done) | (simp only [upd_get, String.reduceEq, if_true, if_false]; first | assumption | rfl))
      · (first | assumption | (simp only [upd_get, String.reduceEq, if_true, if_false]; done) | (simp only [upd_get, String.reduceEq, if_true, if_false]; first | assumption | rfl))
      · (first | assumption | (simp only [upd_get, String.reduceEq, if_true, if_false]; done) | (simp only [upd_get, String.reduceEq, if_true, if_false]; first | assumption | rfl))
      · (first | assumption | (simp only [upd_get, String.reduceEq, if_true, if_false]; done) | (simp only [upd_get, String.reduceEq, if_true, if_false]; first | assumption | rfl))
      · (first | assumption | (simp only [upd_get, String.reduceEq, if_true, if_false]; done) | (simp only [upd_get, String.reduceEq, if_true, if_false]; first | assumption | rfl))
      · rw [hst]; simp only [stepG]; rw [if_pos ⟨e, hgt⟩]; rfl
      · have := stG_len (n := n) (cs := cs) (k + 1); omega
    · rw [decide_eq_false hgt, if_neg Bool.false_ne_true, if_neg Bool.false_ne_true]
      exact hnoyield (fun h => hgt h.2)
  · rw [decide_eq_false e, if_neg Bool.false_ne_true, if_neg Bool.false_ne_true]
    exact hnoyield (fun h => e h.1)
end
end Mine

open PySem PySem.W PyProof.Rows PySem.Calls
set_option maxRecDepth 100000
namespace Mine
def ops1 (l : List Op) : List Op := if l = [] then [("equal", 0, 1, 0, 1)] else l
theorem opsOf_len (bl : List Blk) : (opsOf bl).length ≤ 2 * bl.length := by rw [opsOf_eq]; exact stC_len _
theorem ops1_ne (l : List Op) : ops1 l ≠ [] := by unfold ops1; split <;> simp_all
theorem headTrim_len (n : Int) (l : List Op) : (headTrim n l).length = l.length := by
  unfold headTrim; split
  · split <;> rfl
  · rfl
theorem lastTrim_len (n : Int) (l : List Op) : (lastTrim n l).length = l.length := by
  unfold lastTrim
  rcases List.eq_nil_or_concat l with h | ⟨ini, o, h⟩
  · subst h; rfl
  · rw [List.concat_eq_append] at h; subst h
    obtain ⟨t, i1, i2, j1, j2⟩ := o
    simp only [List.getLast?_append, List.getLast?_singleton, Option.some_or]
    split <;> simp
section
variable {w : World} {A : Around} {B : Shared} {m : Loc} {hp : Hp}
theorem gen_body {h0 : Heap} {hk hb hb0 : Hp} {L sA x dx bA : Addr} {ma : Loc} {bl : List Blk} {n : Int} {F : Hp → Prop} {c : Code}
    (G : Gnd (KW w) B) (hh : A.handled = none) (hroom : (A.over c []).depth + 2 < recursionLimit) (hlen : bl.length ≤ 70)
    (I : Ins hb L x dx 242 ma) (ho : ma (S "opcodes") = some .none) (hmb : ma (S "matching_blocks") = some (.ref bA)) (hn1 : ma (S "get_matching_blocks") = none) (hn2 : ma (S "get_opcodes") = none) (hl : Lst B hb L bA (bl.map bAV))
    (hsL : sA ≠ L) (hbs : hb sA = none) (hle0 : Hp.Le hb0 hb) (hd0 : hb0 dx = none) (hkb : Hp.Le hk hb0)
    (m1 : m (S "self") = some (.ref x)) (m2 : m (S "n") = some (.int n))
    (fin : ∀ hp' m' ys, hp' sA = some (.list (ys.map .ref)) → Ls hp' ys (groupsOf n (opsOf bl)) → (∀ y ∈ ys, y ≠ L) → Hp.Le hb0 hp' → F (hp'.set L (.ns m'))) :
    GS PW w A B (callEnv fdGrp L 218) h0 hk sA F 302 c [] Kf (Hf (callEnv fdGrp L 218)) (dBody (mS 9)) m (hb.set sA (.list [])) := by
  have hbs0 : hb0 sA = none := hle0.none hbs
  have hops := opsOf_len bl
  conv => arg 13; whnf
  refine GS_cons (EX_doc ?_)
  refine GS_seq (fun m' hp' => ∃ cA, m' (S "codes") = some (.ref cA) ∧ m' (S "n") = some (.int n) ∧ hp' cA = some (.list ((opsOf bl).map oAV)) ∧ hp' sA = some (.list []) ∧ Hp.Le hb0 hp' ∧ cA ≠ L ∧ hb0 cA = none ∧ cA ≠ sA) ?_ ?_
  · have I1 : Ins (hb.set sA (.list [])) L x dx 242 ma := I.le ((Hp.Le.refl _).set hbs _)
    refine EX_Assign (EV_meth0 G (clsS w) (f := 210) (by kernel_rfl) (by kernel_rfl) (by kernel_rfl) (EV_local m1 ⟨x, dx, _, rfl, I1, hn2, ?_⟩))
    refine CL_codes G hh (by omega) (bl := bl) (by omega) I1 ho hmb hn1 (hl.le ((Hp.Le.refl _).set hbs _)) fun cA hcA hcL hcd => ?_
    have hcs : cA ≠ sA := fun e => by rw [e, Hp.set_same] at hcA; cases hcA
    have hcb : hb cA = none := by rw [Hp.set_ne _ _ hcs] at hcA; exact hcA
    have hds : dx ≠ sA := Hp.ne_of I.at_ hbs
    refine ⟨rfl, cA, by (first | assumption | (simp only [upd_get, String.reduceEq, if_true, if_false]; done) | (simp only [upd_get, String.reduceEq, if_true, if_false]; first | assumption | rfl)), by (first | assumption | (simp only [upd_get, String.reduceEq, if_true, if_false]; done) | (simp only [upd_get, String.reduceEq, if_true, if_false]; first | assumption | rfl)), Hp.set_same .., by rw [Hp.set_ne _ _ (Ne.symm hcs), Hp.set_ne _ _ (Ne.symm hds), Hp.set_same], ?_, hcL, hle0.none hcb, hcs⟩
    exact ((hle0.set hbs0 _).set hd0 _).set (hle0.none hcb) _
  rintro m3 hp3 ⟨cA, f1, f2, f3, f4, f5, f6, f7, f8⟩
  refine GS_seq (fun m' hp' => ∃ cA, m' (S "codes") = some (.ref cA) ∧ m' (S "n") = some (.int n) ∧ hp' cA = some (.list ((ops1 (opsOf bl)).map oAV)) ∧ hp' sA = some (.list []) ∧ Hp.Le hb0 hp' ∧ cA ≠ L ∧ hb0 cA = none ∧ cA ≠ sA) ?_ ?_
  · refine EX_If ?_
    refine TST_Not ?_
    refine TST_value ?_
    refine EV_local (by (first | assumption | (simp only [upd_get, String.reduceEq, if_true, if_false]; done) | (simp only [upd_get, String.reduceEq, if_true, if_false]; first | assumption | rfl))) ?_
    refine TRU_list f3 f6 (by rw [List.length_map]; exact sz' (by omega)) ?_
    by_cases hz : opsOf bl = []
    · rw [hz]
      rw [show (!!(List.map oAV []).isEmpty) = true from rfl, if_pos rfl]
      refine EXs_cons (EX_Assign (EV_List ?_))
      refine EVS_cons ?_
      refine EV_Tuple ?_
      refine EVS_cons ?_
      refine EV_strc ?_
      refine EVS_cons ?_
      refine EV_int ?_
      refine EVS_cons ?_
      refine EV_int ?_
      refine EVS_cons ?_
      refine EV_int ?_
      refine EVS_cons ?_
      refine EV_int ?_
      refine EVS_nil ?_
      refine ⟨sz rfl, ?_⟩
      refine EVS_nil ?_
      refine ⟨sz rfl, ?_⟩
      intro dA hdA hdL
      refine EXs_nil ⟨rfl, dA, by (first | assumption | (simp only [upd_get, String.reduceEq, if_true, if_false]; done) | (simp only [upd_get, String.reduceEq, if_true, if_false]; first | assumption | rfl)), by (first | assumption | (simp only [upd_get, String.reduceEq, if_true, if_false]; done) | (simp only [upd_get, String.reduceEq, if_true, if_false]; first | assumption | rfl)), Hp.set_same .., by rw [Hp.set_ne _ _ (Hp.ne_of f4 hdA)]; exact f4, f5.set (f5.none hdA) _, hdL, f5.none hdA, Ne.symm (Hp.ne_of f4 hdA)⟩
    · rw [if_neg (by simp [hz])]
      refine EXs_nil ⟨rfl, cA, f1, f2, by unfold ops1; rw [if_neg hz]; exact f3, f4, f5, f6, f7, f8⟩
  clear f1 f2 f3 f4 f5 f6 f7 f8
  rintro m4 hp4 ⟨cA, f1, f2, f3, f4, f5, f6, f7, f8⟩
  have hl1 : (ops1 (opsOf bl)).length ≤ 200 := by
    unfold ops1; split
    · simp
    · omega
  refine GS_seq _ (trim_head G hh f1 f2 f3 f6 (ops1_ne _) (by omega)) ?_
  rintro m5 hp5 ⟨g1, g2, g3⟩
  have hne : headTrim n (ops1 (opsOf bl)) ≠ [] := fun e => by
    have := headTrim_len n (ops1 (opsOf bl)); rw [e] at this; exact ops1_ne (opsOf bl) (List.length_eq_zero_iff.mp this.symm)
  refine GS_seq _ (trim_last (l := headTrim n (ops1 (opsOf bl))) G hh g1 g2 (by rw [g3, Hp.set_same]) f6 hne (by rw [headTrim_len]; omega)) ?_
  rintro m6 hp6 ⟨k1, k2, k3⟩
  subst g3
  rw [Hp.set_set] at k3
  have hcod : lastTrim n (headTrim n (ops1 (opsOf bl))) = codesIn n (opsOf bl) := rfl
  rw [hcod] at k3
  have hcl : (codesIn n (opsOf bl)).length ≤ 200 := by rw [← hcod, lastTrim_len, headTrim_len]; exact hl1
  have hpc : hp6 cA = some (.list ((codesIn n (opsOf bl)).map oAV)) := by rw [k3, Hp.set_same]
  have hps : hp6 sA = some (.list []) := by rw [k3, Hp.set_ne _ _ (Ne.symm f8)]; exact f4
  have hpl : Hp.Le hb0 hp6 := by rw [k3]; exact f5.set f7 _
  clear k3
  generalize hcod' : codesIn n (opsOf bl) = cs at *
  refine GS_cons (EX_Assign ?_)
  refine EV_BinOp ?_
  refine EV_local (by (first | assumption | (simp only [upd_get, String.reduceEq, if_true, if_false]; done) | (simp only [upd_get, String.reduceEq, if_true, if_false]; first | assumption | rfl))) ?_
  refine EV_local (by (first | assumption | (simp only [upd_get, String.reduceEq, if_true, if_false]; done) | (simp only [upd_get, String.reduceEq, if_true, if_false]; first | assumption | rfl))) ?_
  refine OP_add ?_
  refine GS_cons (EX_Assign (EV_List (EVS_nil ⟨sz rfl, fun gA hgA hgL => ?_⟩)))
  have hcg : cA ≠ gA := Hp.ne_of hpc hgA
  have hsg : sA ≠ gA := Hp.ne_of hps hgA
  have hg0 : hb0 gA = none := hpl.none hgA
  have hcb : (hb0.set cA (.list (cs.map oAV))) cA = some (.list (cs.map oAV)) := Hp.set_same ..
  have hle1 : Hp.Le (hb0.set cA (.list (cs.map oAV))) hp6 := fun z o hz => by
    by_cases e : z = cA
    · subst e; rw [Hp.set_same] at hz; rw [hpc]; exact hz
    · rw [Hp.set_ne _ _ e] at hz; exact hpl _ _ hz
  generalize hhb : hb0.set cA (.list (cs.map oAV)) = hb1 at *
  have hg1 : hb1 gA = none := by rw [← hhb, Hp.set_ne _ _ (Ne.symm hcg)]; exact hg0
  have hs1 : hb1 sA = none := by rw [← hhb, Hp.set_ne _ _ (Ne.symm f8)]; exact hbs0
  have hkb1 : Hp.Le hk hb1 := by rw [← hhb]; exact hkb.trans ((Hp.Le.refl _).set f7 _)
  have h01 : Hp.Le hb0 hb1 := by rw [← hhb]; exact (Hp.Le.refl _).set f7 _
  refine GS_forL (fun it kk p => hh) (EV_local (v := .ref cA) (by (first | assumption | (simp only [upd_get, String.reduceEq, if_true, if_false]; done) | (simp only [upd_get, String.reduceEq, if_true, if_false]; first | assumption | rfl))) ⟨cA, cs.map oAV, rfl, .own (by rw [Hp.set_ne _ _ hcg]; exact hpc) f6, fun it hit hitL => ?_⟩)
  have hit6 : hp6 it = none := ((Hp.Le.refl hp6).set hgA _).none hit
  have hiti : hb1 it = none := hle1.none hit6
  have hgi : gA ≠ it := Hp.ne_of (Hp.set_same ..) hit
  have hsi : sA ≠ it := Hp.ne_of hps hit6
  refine ⟨fun k m' hp' => ∃ gA ys, GI hb1 L sA it n (stG n cs k) gA ys m' hp', fun i => cs.length - i + 1, by show cs.length - 0 + 1 ≤ 302; omega, fun ob => ?_, fun i m₂ hp₂ ob ⟨gA, ys, x⟩ => ⟨gA, ys, x.set hiti ob⟩, fun i m₂ hp₂ ⟨gA, ys, x⟩ => .own (x.le _ _ hcb) f6, ?_, ?_⟩
  · refine ⟨gA, [], by (first | assumption | (simp only [upd_get, String.reduceEq, if_true, if_false]; done) | (simp only [upd_get, String.reduceEq, if_true, if_false]; first | assumption | rfl)), by (first | assumption | (simp only [upd_get, String.reduceEq, if_true, if_false]; done) | (simp only [upd_get, String.reduceEq, if_true, if_false]; first | assumption | rfl)), by (first | assumption | (simp only [upd_get, String.reduceEq, if_true, if_false]; done) | (simp only [upd_get, String.reduceEq, if_true, if_false]; first | assumption | rfl)), ?_, ?_, ?_, Ne.symm hsg, by simp, by simp, hg1, hs1, ?_, hgL, hsL, hgi, hsi, by simp, by simp, by simp [stG]⟩
    · rw [Hp.set_ne _ _ hgi, Hp.set_same]; rfl
    · rw [Hp.set_ne _ _ hsi, Hp.set_ne _ _ hsg, hps]; rfl
    · exact ⟨rfl, fun i y g hy => by simp at hy⟩
    · exact (hle1.set hg1 _).set hiti _
  · rintro kk p K' H' i y m₂ hp₂ ob hy ⟨gA', ys, x⟩ hob cont
    obtain ⟨o, hok, rfl⟩ : ∃ o, cs[i]? = some o ∧ oAV o = y := by
      rw [List.getElem?_map] at hy
      exact Option.map_eq_some_iff.mp hy
    have hil : i < cs.length := by
      rcases Nat.lt_or_ge i cs.length with h' | h'
      · exact h'
      · rw [List.getElem?_eq_none h'] at hok; cases hok
    have := groups_turn (c := .forLoop forT (.ref it) forB [] (callEnv fdGrp L 218)) (fs := [.ret kk none false [] c p []]) (N := cs.length - i) (K := K') (H := H') (F := F) (h0 := h0) G hh rfl rfl (by omega) hok hkb1 x hiti hob (fun n' m₄ hp₄ gA'' ys' hN x' hob' => cont n' m₄ hp₄ (by show cs.length - (i + 1) + 1 ≤ n'; omega) ⟨gA'', ys', x'⟩ hob')
    exact this
  · rintro m₂ hp₂ ⟨gA', ys, x⟩
    rw [List.length_map] at x ⊢
    have hst : stG n cs cs.length = cs.foldl (stepG n) ([], []) := by unfold stG; rw [List.take_length]
    have hN : (fun i => cs.length - i + 1) cs.length = 1 := by show cs.length - cs.length + 1 = 1; omega
    rw [hN]
    have gl' : (hp₂.del it) gA' = some (.list ((stG n cs cs.length).2.map oAV)) := by rw [Hp.del_ne _ x.gi]; exact x.gl
    have sl' : (hp₂.del it) sA = some (.list (ys.map .ref)) := by rw [Hp.del_ne _ x.si]; exact x.sl
    have ls' : Ls (hp₂.del it) ys (stG n cs cs.length).1 := x.ls.del x.iy
    have le' : Hp.Le hb1 (hp₂.del it) := x.le.del hiti
    have hgl : m₂ (S "group") = some (.ref gA') := x.hg
    have hlen2 := x.len
    have hlen3 := stG_len (n := n) (cs := cs) cs.length
    have hgL' := x.gL
    have hgS' := x.gS
    have hgy' := x.gy
    have hsy' := x.sy
    have hgb' := x.bg
    have hyL' := x.yL
    clear x
    generalize hp₂.del it = hp₇ at *
    have keep : ¬ ((stG n cs cs.length).2 = [] ∨ ((stG n cs cs.length).2.length = 1 ∧ ((stG n cs cs.length).2.head?.map (·.1)) = some "equal")) →
        GS PW w A B (callEnv fdGrp L 218) h0 hk sA F 1 c [] (KK (callEnv fdGrp L 218) [] Kf (Hf (callEnv fdGrp L 218))) (Hf (callEnv fdGrp L 218)) (match grpS 8 with | .If _ b _ _ => b | _ => []) m₂ hp₇ := fun hc => by
      conv => arg 13; whnf
      refine GS_yield rfl rfl (EV_local hgl ⟨ys.map .ref, sl', hsL, by rw [List.length_map, ls'.1]; omega, hkb1.trans le', ?_⟩)
      refine GS_nil (GF_rest (GS_nil (GF_end ?_)))
      refine fin _ _ (ys ++ [gA']) (by rw [Hp.set_same]; simp) ?_ (fun z hz => (List.mem_append.mp hz).elim (hyL' z) fun h => by rw [List.mem_singleton.mp h]; exact hgL') ((h01.trans le').set hbs0 _)
      have e : groupsOf n (opsOf bl) = (stG n cs cs.length).1 ++ [(stG n cs cs.length).2] := by
        unfold groupsOf; rw [hcod', ← hst]; rw [if_neg hc]
      rw [e]
      exact (ls'.set hsy' _).snoc (by rw [Hp.set_ne _ _ hgS']; exact gl')
    have drop : ((stG n cs cs.length).2 = [] ∨ ((stG n cs cs.length).2.length = 1 ∧ ((stG n cs cs.length).2.head?.map (·.1)) = some "equal")) →
        GS PW w A B (callEnv fdGrp L 218) h0 hk sA F 1 c [] (KK (callEnv fdGrp L 218) [] Kf (Hf (callEnv fdGrp L 218))) (Hf (callEnv fdGrp L 218)) [] m₂ hp₇ := fun hc => by
      refine GS_nil (GF_rest (GS_nil (GF_end ?_)))
      refine fin _ _ ys sl' ?_ hyL' (h01.trans le')
      have e : groupsOf n (opsOf bl) = (stG n cs cs.length).1 := by
        unfold groupsOf; rw [hcod', ← hst]; rw [if_pos hc]
      rw [e]; exact ls'
    clear hst
    generalize stG n cs cs.length = st at *
    obtain ⟨st1, st2⟩ := st
    dsimp only at *
    refine GS_if ?_
    refine TST_BoolOp ?_
    refine ALLT_And_cons ?_
    refine TST_value ?_
    refine EV_local (by (first | assumption | (simp only [upd_get, String.reduceEq, if_true, if_false]; done) | (simp only [upd_get, String.reduceEq, if_true, if_false]; first | assumption | rfl))) ?_
    refine TRU_list gl' hgL' (by rw [List.length_map]; exact sz' (by omega)) ?_
    cases st2 with
    | nil =>
      rw [show (!(List.map oAV []).isEmpty) = false from rfl, if_neg Bool.false_ne_true, if_neg Bool.false_ne_true]
      exact drop (.inl rfl)
    | cons o r =>
      obtain ⟨t, i1, i2, j1, j2⟩ := o
      rw [show (!(List.map oAV ((t, i1, i2, j1, j2) :: r)).isEmpty) = true from rfl, if_pos rfl]
      refine ALLT_And_cons ?_
      refine TST_Not ?_
      refine TST_BoolOp ?_
      refine ALLT_And_cons ?_
      refine TST_Compare1 ?_
      refine EV_CallB (EV_blt G (no_len w) blt_len (by decide) (fun _ => VR_bi) ⟨rfl, EVS_cons (EV_local hgl (EVS_nil (CL_len (.own gl' hgL') (by rw [List.length_map]; exact sz' (by omega)) ?_)))⟩)
      refine EV_int ?_
      refine OP_eq ?_
      refine TRU_bool ?_
      rw [List.length_map]
      by_cases h1 : r.length = 0
      · rw [show ((((t, i1, i2, j1, j2) :: r).length : Int) == 1) = true from by simp [h1], if_pos rfl]
        refine ALLT_And_cons ?_
        refine TST_Compare1 ?_
        refine EV_Subscript ?_
        refine EV_Subscript ?_
        refine EV_local (by (first | assumption | (simp only [upd_get, String.reduceEq, if_true, if_false]; done) | (simp only [upd_get, String.reduceEq, if_true, if_false]; first | assumption | rfl))) ?_
        refine EV_int ?_
        refine SUB_list (.own gl' hgL') (by decide) (by decide) (x := oAV (t, i1, i2, j1, j2)) rfl ?_
        refine EV_int ?_
        refine SUB_tup (j := 0) (x := .str (S t)) (by decide) (by decide) rfl rfl ?_
        refine EV_strc ?_
        refine OP_eqs ?_
        refine TRU_bool ?_
        rw [str_eq_dec]
        by_cases e : t = "equal"
        · rw [decide_eq_true e, if_pos rfl]
          refine ALLT_And_nil ?_
          rw [show (!true) = false from rfl, if_neg Bool.false_ne_true, if_neg Bool.false_ne_true]
          exact drop (.inr ⟨by simp [h1], by simp [e]⟩)
        · rw [decide_eq_false e, if_neg Bool.false_ne_true]
          rw [show (!false) = true from rfl, if_pos rfl]
          refine ALLT_And_nil ?_
          rw [if_pos rfl]
          exact keep (by simp [e])
      · rw [show ((((t, i1, i2, j1, j2) :: r).length : Int) == 1) = false from by simp; omega, if_neg Bool.false_ne_true]
        rw [show (!false) = true from rfl, if_pos rfl]
        refine ALLT_And_nil ?_
        rw [if_pos rfl]
        exact keep (by simp; intro h; simp [h] at h1)
end
end Mine

open PySem PySem.W PyProof.Rows PySem.Calls
set_option maxRecDepth 100000
namespace Mine
def fdLG : FuncData := fnD (topS PW 8) (S "_law_groups") .none .none 0 (.str (S "law_dm0058_03") 592) none (.ref 257) .none []
theorem kLG (w : World) : (KW w).lookup 258 = some ⟨.type "function", none, .func fdLG, #[]⟩ := rfl
abbrev LSt := List (List Op) × Int × Int × Int × Int
def wordOf (i1 i2 j1 j2 : Int) : String := if i1 = i2 then "insert" else if j1 = j2 then "delete" else "replace"
def popLast (g : List Op) (i1 j1 : Int) : List Op := g.dropLast ++ [("equal", (g.getLast?.getD ("", 0, 0, 0, 0)).2.1, i1, (g.getLast?.getD ("", 0, 0, 0, 0)).2.2.2.1, j1)]
def openG (n : Int) (st : LSt) : List (List Op) × List Op :=
  if st.1 ≠ [] ∧ st.2.2.2.1 - n ≤ st.2.2.2.2 then (st.1.dropLast, popLast (st.1.getLast?.getD []) st.2.1 st.2.2.1)
  else (st.1, if 0 < st.2.2.2.1 then [("equal", st.2.1 - imin n st.2.2.2.1, st.2.1, st.2.2.1 - imin n st.2.2.2.1, st.2.2.1)] else [])
def stepL (whole n : Int) (st : LSt) (b : Blk) : LSt :=
  if st.2.1 < b.1 ∨ st.2.2.1 < b.2.1 then
    ((openG n st).1 ++ [(openG n st).2 ++ [(wordOf st.2.1 b.1 st.2.2.1 b.2.1, st.2.1, b.1, st.2.2.1, b.2.1)] ++
      (if st.2.2.2.1 < whole then [("equal", b.1, b.1 + imin (st.2.2.2.1 + n) whole - st.2.2.2.1, b.2.1, b.2.1 + imin (st.2.2.2.1 + n) whole - st.2.2.2.1)] else [])],
      b.1 + b.2.2, b.2.1 + b.2.2, st.2.2.2.1 + b.2.2, if st.2.2.2.1 < whole then imin (st.2.2.2.1 + n) whole else st.2.2.2.2)
  else (st.1, b.1 + b.2.2, b.2.1 + b.2.2, st.2.2.2.1 + b.2.2, st.2.2.2.2)
def wholeOf (bl : List Blk) : Int := (bl.map (·.2.2)).sum
def stL (n : Int) (bl : List Blk) (k : Nat) : LSt := (bl.take k).foldl (stepL (wholeOf bl) n) ([], 0, 0, 0, 0)
def lawG (n : Int) (bl : List Blk) : List (List Op) := (bl.foldl (stepL (wholeOf bl) n) ([], 0, 0, 0, 0)).1
theorem stL_succ {n : Int} {bl : List Blk} {k : Nat} {b : Blk} (h : bl[k]? = some b) : stL n bl (k + 1) = stepL (wholeOf bl) n (stL n bl k) b := foldl_take_succ h
theorem lawG_eq (n : Int) (bl : List Blk) : lawG n bl = (stL n bl bl.length).1 := by unfold lawG stL; rw [List.take_length]
theorem stepL_ok {whole n : Int} {st : LSt} {b : Blk} {k : Nat} (h : st.1.length ≤ k ∧ ∀ g ∈ st.1, g ≠ [] ∧ g.length ≤ 3 * k) : (stepL whole n st b).1.length ≤ k + 1 ∧ ∀ g ∈ (stepL whole n st b).1, g ≠ [] ∧ g.length ≤ 3 * (k + 1) := by
  obtain ⟨gs, i1, j1, p, r⟩ := st
  obtain ⟨h1, h2⟩ := h
  dsimp only at h1 h2
  simp only [stepL]
  split
  · have ho : (openG n (gs, i1, j1, p, r)).1.length ≤ k ∧ (∀ g ∈ (openG n (gs, i1, j1, p, r)).1, g ∈ gs) ∧ (openG n (gs, i1, j1, p, r)).2.length ≤ 3 * k + 1 := by
      simp only [openG]
      split
      · rename_i hc
        refine ⟨by simp; omega, fun g hg => (List.dropLast_sublist gs).subset hg, ?_⟩
        have hl : (gs.getLast?.getD []).length ≤ 3 * k := by
          rcases List.eq_nil_or_concat gs with e | ⟨ini, l, e⟩
          · exact absurd e hc.1
          · rw [List.concat_eq_append] at e
            subst e
            simp only [List.getLast?_append, List.getLast?_singleton, Option.some_or, Option.getD_some]
            exact (h2 l (by simp)).2
        simp only [popLast, List.length_append, List.length_dropLast, List.length_cons, List.length_nil]
        omega
      · refine ⟨h1, fun g hg => hg, ?_⟩
        split <;> simp <;> omega
    refine ⟨by simp only [List.length_append, List.length_cons, List.length_nil]; omega, fun g hg => ?_⟩
    rw [List.mem_append] at hg
    rcases hg with hg | hg
    · have := h2 g (ho.2.1 g hg); exact ⟨this.1, by omega⟩
    · simp only [List.mem_cons, List.not_mem_nil, or_false] at hg
      subst hg
      refine ⟨by simp, ?_⟩
      have := ho.2.2
      simp only [List.length_append, List.length_cons, List.length_nil]
      split <;> simp <;> omega
  · exact ⟨by simp only; omega, fun g hg => ⟨(h2 g hg).1, by have := (h2 g hg).2; omega⟩⟩
theorem stL_ok {n : Int} {bl : List Blk} : ∀ k, (stL n bl k).1.length ≤ k ∧ ∀ g ∈ (stL n bl k).1, g ≠ [] ∧ g.length ≤ 3 * k
  | 0 => by simp [stL]
  | k + 1 => by
    have ih := stL_ok (n := n) (bl := bl) k
    cases h : bl[k]? with
    | none =>
      have hk : bl.length ≤ k := List.getElem?_eq_none_iff.mp h
      have : stL n bl (k + 1) = stL n bl k := by unfold stL; rw [List.take_of_length_le (by omega), List.take_of_length_le hk]
      rw [this]; exact ⟨by omega, fun g hg => ⟨(ih.2 g hg).1, by have := (ih.2 g hg).2; omega⟩⟩
    | some b => rw [stL_succ h]; exact stepL_ok ih
structure LG (hb : Hp) (L it gA : Addr) (ys : List Addr) (gs : List (List Op)) (hp : Hp) : Prop where
  gl : hp gA = some (.list (ys.map .ref))
  ls : Ls hp ys gs
  nd : ys.Nodup
  gy : gA ∉ ys
  bg : hb gA = none
  yb : ∀ y ∈ ys, hb y = none
  le : Hp.Le hb hp
  gL : gA ≠ L
  yL : ∀ y ∈ ys, y ≠ L
  gi : gA ≠ it
  iy : it ∉ ys
structure LV (n whole : Int) (gA : Addr) (st : LSt) (m : Loc) : Prop where
  hn : m (S "n") = some (.int n)
  hw : m (S "whole") = some (.int whole)
  hg : m (S "groups") = some (.ref gA)
  h1 : m (S "i1") = some (.int st.2.1)
  h2 : m (S "j1") = some (.int st.2.2.1)
  h3 : m (S "point") = some (.int st.2.2.2.1)
  h4 : m (S "reach") = some (.int st.2.2.2.2)
section
variable {hb hp : Hp} {L it gA y : Addr} {ys : List Addr} {gs : List (List Op)} {g : List Op}
theorem LG.set (x : LG hb L it gA ys gs hp) (hbi : hb it = none) (ob : Obj) : LG hb L it gA ys gs (hp.set it (.obj ob)) :=
  { x with gl := by rw [Hp.set_ne _ _ x.gi]; exact x.gl, ls := x.ls.set x.iy _, le := x.le.set hbi _ }
theorem LG.last (x : LG hb L it gA (ys ++ [y]) (gs ++ [g]) hp) : hp y = some (.list (g.map oAV)) := by
  have h := x.ls.1
  simp only [List.length_append, List.length_cons, List.length_nil, Nat.add_right_cancel_iff] at h
  exact x.ls.2 ys.length y g (by simp) (by rw [h]; simp)
theorem LG.put (x : LG hb L it gA (ys ++ [y]) (gs ++ [g]) hp) (g' : List Op) : LG hb L it gA (ys ++ [y]) (gs ++ [g']) (hp.set y (.list (g'.map oAV))) := by
  have hyn : y ∉ ys := fun h => by have := x.nd; rw [List.nodup_append] at this; exact this.2.2 y h y (by simp) rfl
  have hgy : gA ≠ y := fun e => x.gy (by simp [e])
  refine { x with gl := by rw [Hp.set_ne _ _ hgy]; exact x.gl, ls := ?_, le := x.le.set (x.yb y (by simp)) _ }
  have h := x.ls.1
  simp only [List.length_append, List.length_cons, List.length_nil, Nat.add_right_cancel_iff] at h
  have h0 : Ls hp ys gs := ⟨h, fun i z g hz hg => x.ls.2 i z g (by rw [List.getElem?_append_left (List.getElem?_eq_some_iff.mp hz).1]; exact hz) (by rw [List.getElem?_append_left (List.getElem?_eq_some_iff.mp hg).1]; exact hg)⟩
  exact (h0.set hyn _).snoc (Hp.set_same ..)
theorem LG.new (x : LG hb L it gA ys gs hp) {ob : Obj} (hit : hp it = some (.obj ob)) (hy : hp y = none) (hyL : y ≠ L) : LG hb L it gA (ys ++ [y]) (gs ++ [g]) ((hp.set y (.list (g.map oAV))).set gA (.list ((ys ++ [y]).map .ref))) := by
  have hgy : gA ≠ y := Hp.ne_of x.gl hy
  have hyn : y ∉ ys := x.ls.fresh hy
  have hby : hb y = none := x.le.none hy
  refine ⟨Hp.set_same .., ?_, ?_, ?_, x.bg, ?_, (x.le.set hby _).set x.bg _, x.gL, ?_, x.gi, ?_⟩
  · exact ((x.ls.set hyn _).snoc (Hp.set_same ..)).set (by simp [x.gy, hgy]) _
  · rw [List.nodup_append]; exact ⟨x.nd, by simp, fun a ha b hb e => by simp at hb; subst hb; subst e; exact hyn ha⟩
  · simp [x.gy, hgy]
  · intro z hz; simp at hz; rcases hz with hz | rfl
    · exact x.yb z hz
    · exact hby
  · intro z hz; simp at hz; rcases hz with hz | rfl
    · exact x.yL z hz
    · exact hyL
  · simp [x.iy, Hp.ne_of hit hy]
end
def oD (o : Op) : PyData := .tuple [.str (S o.1), .int o.2.1, .int o.2.2.1, .int o.2.2.2.1, .int o.2.2.2.2]
def gD (g : List Op) : PyData := .list (g.map oD)
section
variable {w : World} {A : Around} {E : Value → Shared → Prop} {B : Shared} {env : Env} {m : Loc} {hp hb : Hp} {L it gA y : Addr} {ys : List Addr} {gs : List (List Op)} {g : List Op}
theorem RDs_ops : ∀ g : List Op, RDs B hp L (g.map oAV) (g.map oD)
  | [] => .nil
  | _ :: g => .cons (.tup (.cons (.str _) (.cons (.int _) (.cons (.int _) (.cons (.int _) (.cons (.int _) .nil)))))) (RDs_ops g)
theorem RDs_groups : ∀ {ys : List Addr} {gs : List (List Op)}, Ls hp ys gs → (∀ y ∈ ys, y ≠ L) → RDs B hp L (ys.map .ref) (gs.map gD)
  | [], gs, x, _ => by
    have := x.1
    cases gs with
    | nil => exact .nil
    | cons _ _ => simp at this
  | y :: ys, gs, x, hL => by
    cases gs with
    | nil => have := x.1; simp at this
    | cons g gs =>
      refine .cons (.list (.own (x.2 0 y g rfl rfl) (hL y (by simp))) (RDs_ops g)) (RDs_groups ⟨by have := x.1; simpa using this, fun i z g hz hg => x.2 (i + 1) z g (by simpa using hz) (by simpa using hg)⟩ fun z hz => hL z (by simp [hz]))
theorem strOk_S (x : String) : PyData.strOk (S x) = true := by
  show PyData.strOk (PySem.Str.ofString x) = true
  rw [PySem.Str.ofString_eq_byList]
  unfold PySem.Str.ofStringByList PyData.strOk
  simp only [List.all_toArray, List.all_eq_true, List.mem_map, decide_eq_true_eq]
  rintro c ⟨ch, _, rfl⟩
  have := ch.valid
  show ch.val.toNat < 0x110000
  rcases this with h | h
  · have : ch.val.toNat < 0xd800 := h
    omega
  · exact h.2
theorem shaped_groups (gs : List (List Op)) : SeqAt.shaped (.list (gs.map gD)) = true := by
  have h1 : ∀ g : List Op, PyData.canLayAll0 (g.map oD) = true := by
    intro g; induction g with
    | nil => rfl
    | cons b bl ih => simp only [List.map_cons, PyData.canLayAll0, ih, Bool.and_true]; simp [oD, PyData.canLay0, PyData.canLayAll0, strOk_S]
  have h2 : ∀ g : List Op, PyData.depthAll (g.map oD) ≤ 2 := by
    intro g; induction g with
    | nil => simp [PyData.depthAll]
    | cons b bl ih =>
      simp only [List.map_cons, PyData.depthAll]
      have : (oD b).depth ≤ 2 := by simp [oD, PyData.depth, PyData.depthAll]
      omega
  have h3 : ∀ gs : List (List Op), PyData.canLayAll0 (gs.map gD) = true := by
    intro g; induction g with
    | nil => rfl
    | cons b bl ih => simp only [List.map_cons, PyData.canLayAll0, ih, Bool.and_true]; simp only [gD, PyData.canLay0]; exact h1 b
  have h4 : ∀ gs : List (List Op), PyData.depthAll (gs.map gD) ≤ 3 := by
    intro g; induction g with
    | nil => simp [PyData.depthAll]
    | cons b bl ih =>
      simp only [List.map_cons, PyData.depthAll]
      have : (gD b).depth ≤ 3 := by simp only [gD, PyData.depth]; have := h2 b; omega
      omega
  simp only [SeqAt.shaped, PyData.canLay0, h3, Bool.true_and, PyData.depth]
  have := h4 gs; exact decide_eq_true (by omega)
theorem EV_lastG {p1 p2 p3 p4 : Pos} {k} {Q : AV → Hp → Prop} (hg : m (S "groups") = some (.ref gA)) (hl : hp gA = some (.list ((ys ++ [y]).map .ref))) (hgL : gA ≠ L) (h : Q (.ref y) hp) :
    EV (model PW w) A E B (callEnv fdLG L 258) (.Subscript (.Name (S "groups") p1) (.UnaryOp .USub (.Constant (.int 1) k p2) p3) p4) m hp Q := by
  refine EV_Subscript (EV_local hg (EV_neg (EV_int ⟨_, rfl, SUB_listNeg (x := .ref y) (.own hl hgL) (by decide) (by decide) ?_ ?_ h⟩)))
  · simp; omega
  · have : ((-1 : Int) + (((ys ++ [y]).map AV.ref).length : Nat)).toNat = ys.length := by simp; omega
    rw [this]; simp
end
end Mine

open PySem PySem.W PyProof.Rows PySem.Calls
set_option maxRecDepth 100000
namespace Mine
def lgF : Stmt := (dBody (topS PW 8)).getD 3 (.Pass ⟨0, 0, 0, 0⟩)
def lgT : Expr := match lgF with | .For t _ _ _ _ => t | _ => .Name (S "") ⟨0, 0, 0, 0⟩
def lgB : List Stmt := match lgF with | .For _ _ b _ _ => b | _ => []
def lgC : List Stmt := match lgB with | [.If _ b _ _, _] => b | _ => []
def lgS (i : Nat) : Stmt := lgC.getD i (.Pass ⟨0, 0, 0, 0⟩)
section
variable {w : World} {A : Around} {E : Value → Shared → Prop} {B : Shared} {m : Loc} {hp hb : Hp} {L it gA y : Addr} {ys : List Addr} {n whole : Int} {st : LSt} {b : Blk} {ob : Obj} {k : Nat}
structure LB (b : Blk) (m : Loc) : Prop where
  b1 : m (S "i2") = some (.int b.1)
  b2 : m (S "j2") = some (.int b.2.1)
  b3 : m (S "size") = some (.int b.2.2)
theorem lg_open (G : Gnd (KW w) B) (hh : A.handled = none) (hu : A.units + 64 < cLine) (V : LV n whole gA st m) (b' : LB b m) (x : LG hb L it gA ys st.1 hp) (hit : hp it = some (.obj ob)) (hbL : hb L = none) (hlen : st.1.length ≤ 300) (hg : ∀ g ∈ st.1, g ≠ [] ∧ g.length ≤ 500) :
    EX (model PW w) A (fun _ _ => False) B (callEnv fdLG L 258) (lgS 0) m hp fun f m' hp' => f = .next ∧ LV n whole gA st m' ∧ LB b m' ∧ hp' it = some (.obj ob) ∧ ∃ ys0 y, LG hb L it gA (ys0 ++ [y]) ((openG n st).1 ++ [(openG n st).2]) hp' := by
  obtain ⟨v1, v2, v3, v4, v5, v6, v7⟩ := V
  obtain ⟨w1, w2, w3⟩ := b'
  obtain ⟨gs, i1, j1, p, r⟩ := st
  dsimp only at v1 v2 v3 v4 v5 v6 v7 x hlen hg
  conv => arg 6; whnf
  have other : ∀ hp', LG hb L it gA ys gs hp' → hp' it = some (.obj ob) → ¬ (gs ≠ [] ∧ p - n ≤ r) → EXs (model PW w) A (fun _ _ => False) B (callEnv fdLG L 258) (match lgS 0 with | .If _ _ o _ => o | _ => []) m hp' fun f m' hp' => f = .next ∧ LV n whole gA (gs, i1, j1, p, r) m' ∧ LB b m' ∧ hp' it = some (.obj ob) ∧ ∃ ys0 y, LG hb L it gA (ys0 ++ [y]) ((openG n (gs, i1, j1, p, r)).1 ++ [(openG n (gs, i1, j1, p, r)).2]) hp' := by
    intro hp' x' hit' hc
    conv => arg 6; whnf
    refine EXs_cons (EX_Assign (EV_CallB (EV_blt G (no_min w) blt_min (by decide) (fun _ => VR_bi) ⟨rfl, ?_⟩)))
    refine EVS_cons ?_
    refine EV_local (by (first | assumption | (simp only [upd_get, String.reduceEq, if_true, if_false]; done) | (simp only [upd_get, String.reduceEq, if_true, if_false]; first | assumption | rfl))) ?_
    refine EVS_cons ?_
    refine EV_local (by (first | assumption | (simp only [upd_get, String.reduceEq, if_true, if_false]; done) | (simp only [upd_get, String.reduceEq, if_true, if_false]; first | assumption | rfl))) ?_
    refine EVS_nil ?_
    refine CL_min hh ?_
    refine EXs_cons (EX_Expr (EV_append (EV_local (v := .ref gA) (by (first | assumption | (simp only [upd_get, String.reduceEq, if_true, if_false]; done) | (simp only [upd_get, String.reduceEq, if_true, if_false]; first | assumption | rfl))) ⟨gA, _, rfl, x'.gl, x'.gL, ?_⟩)))
    have hls := x'.ls.1
    refine EVS_cons ?_
    refine EV_IfExp ?_
    refine TST_Compare1 ?_
    refine EV_local (by (first | assumption | (simp only [upd_get, String.reduceEq, if_true, if_false]; done) | (simp only [upd_get, String.reduceEq, if_true, if_false]; first | assumption | rfl))) ?_
    refine EV_int ?_
    refine OP_gt ?_
    refine TRU_bool ?_
    by_cases hp0 : 0 < p
    · rw [decide_eq_true hp0, if_pos rfl]
      refine EV_List ?_
      refine EVS_cons ?_
      refine EV_Tuple ?_
      refine EVS_cons ?_
      refine EV_strc ?_
      refine EVS_cons ?_
      refine EV_BinOp ?_
      refine EV_local (by (first | assumption | (simp only [upd_get, String.reduceEq, if_true, if_false]; done) | (simp only [upd_get, String.reduceEq, if_true, if_false]; first | assumption | rfl))) ?_
      refine EV_local (by (first | assumption | (simp only [upd_get, String.reduceEq, if_true, if_false]; done) | (simp only [upd_get, String.reduceEq, if_true, if_false]; first | assumption | rfl))) ?_
      refine OP_sub ?_
      refine EVS_cons ?_
      refine EV_local (by (first | assumption | (simp only [upd_get, String.reduceEq, if_true, if_false]; done) | (simp only [upd_get, String.reduceEq, if_true, if_false]; first | assumption | rfl))) ?_
      refine EVS_cons ?_
      refine EV_BinOp ?_
      refine EV_local (by (first | assumption | (simp only [upd_get, String.reduceEq, if_true, if_false]; done) | (simp only [upd_get, String.reduceEq, if_true, if_false]; first | assumption | rfl))) ?_
      refine EV_local (by (first | assumption | (simp only [upd_get, String.reduceEq, if_true, if_false]; done) | (simp only [upd_get, String.reduceEq, if_true, if_false]; first | assumption | rfl))) ?_
      refine OP_sub ?_
      refine EVS_cons ?_
      refine EV_local (by (first | assumption | (simp only [upd_get, String.reduceEq, if_true, if_false]; done) | (simp only [upd_get, String.reduceEq, if_true, if_false]; first | assumption | rfl))) ?_
      refine EVS_nil ?_
      refine ⟨sz rfl, ?_⟩
      refine EVS_nil ?_
      refine ⟨sz rfl, ?_⟩
      intro y hy hyL
      refine EVS_nil ?_
      refine ⟨ys.map .ref, _, rfl, by rw [Hp.set_ne _ _ (Hp.ne_of x'.gl hy)]; exact x'.gl, by rw [List.length_map]; exact sz' (by omega), by simp, by simp, by simp, ?_⟩
      refine EXs_nil ?_
      have hn := x'.new (g := [("equal", i1 - imin n p, i1, j1 - imin n p, j1)]) hit' hy hyL
      refine ⟨rfl, ⟨by (first | assumption | (simp only [upd_get, String.reduceEq, if_true, if_false]; done) | (simp only [upd_get, String.reduceEq, if_true, if_false]; first | assumption | rfl)), by (first | assumption | (simp only [upd_get, String.reduceEq, if_true, if_false]; done) | (simp only [upd_get, String.reduceEq, if_true, if_false]; first | assumption | rfl)), by (first | assumption | (simp only [upd_get, String.reduceEq, if_true, if_false]; done) | (simp only [upd_get, String.reduceEq, if_true, if_false]; first | assumption | rfl)), by (first | assumption | (simp only [upd_get, String.reduceEq, if_true, if_false]; done) | (simp only [upd_get, String.reduceEq, if_true, if_false]; first | assumption | rfl)), by (first | assumption | (simp only [upd_get, String.reduceEq, if_true, if_false]; done) | (simp only [upd_get, String.reduceEq, if_true, if_false]; first | assumption | rfl)), by (first | assumption | (simp only [upd_get, String.reduceEq, if_true, if_false]; done) | (simp only [upd_get, String.reduceEq, if_true, if_false]; first | assumption | rfl)), by (first | assumption | (simp only [upd_get, String.reduceEq, if_true, if_false]; done) | (simp only [upd_get, String.reduceEq, if_true, if_false]; first | assumption | rfl))⟩, ⟨by (first | assumption | (simp only [upd_get, String.reduceEq, if_true, if_false]; done) | (simp only [upd_get, String.reduceEq, if_true, if_false]; first | assumption | rfl)), by (first | assumption | (simp only [upd_get, String.reduceEq, if_true, if_false]; done) | (simp only [upd_get, String.reduceEq, if_true, if_false]; first | assumption | rfl)), by (first | assumption | (simp only [upd_get, String.reduceEq, if_true, if_false]; done) | (simp only [upd_get, String.reduceEq, if_true, if_false]; first | assumption | rfl))⟩, ?_, ys, y, ?_⟩
      · rw [Hp.set_ne _ _ (Ne.symm x'.gi), Hp.set_ne _ _ (Hp.ne_of hit' hy)]; exact hit'
      · simp only [openG, hc, if_false, hp0, if_true]
        simpa [oAV] using hn
    · rw [decide_eq_false hp0, if_neg Bool.false_ne_true]
      refine EV_List (EVS_nil ⟨sz rfl, fun y hy hyL => ?_⟩)
      refine EVS_nil ?_
      refine ⟨ys.map .ref, _, rfl, by rw [Hp.set_ne _ _ (Hp.ne_of x'.gl hy)]; exact x'.gl, by rw [List.length_map]; exact sz' (by omega), by simp, by simp, by simp, ?_⟩
      refine EXs_nil ?_
      have hn := x'.new (g := []) hit' hy hyL
      refine ⟨rfl, ⟨by (first | assumption | (simp only [upd_get, String.reduceEq, if_true, if_false]; done) | (simp only [upd_get, String.reduceEq, if_true, if_false]; first | assumption | rfl)), by (first | assumption | (simp only [upd_get, String.reduceEq, if_true, if_false]; done) | (simp only [upd_get, String.reduceEq, if_true, if_false]; first | assumption | rfl)), by (first | assumption | (simp only [upd_get, String.reduceEq, if_true, if_false]; done) | (simp only [upd_get, String.reduceEq, if_true, if_false]; first | assumption | rfl)), by (first | assumption | (simp only [upd_get, String.reduceEq, if_true, if_false]; done) | (simp only [upd_get, String.reduceEq, if_true, if_false]; first | assumption | rfl)), by (first | assumption | (simp only [upd_get, String.reduceEq, if_true, if_false]; done) | (simp only [upd_get, String.reduceEq, if_true, if_false]; first | assumption | rfl)), by (first | assumption | (simp only [upd_get, String.reduceEq, if_true, if_false]; done) | (simp only [upd_get, String.reduceEq, if_true, if_false]; first | assumption | rfl)), by (first | assumption | (simp only [upd_get, String.reduceEq, if_true, if_false]; done) | (simp only [upd_get, String.reduceEq, if_true, if_false]; first | assumption | rfl))⟩, ⟨by (first | assumption | (simp only [upd_get, String.reduceEq, if_true, if_false]; done) | (simp only [upd_get, String.reduceEq, if_true, if_false]; first | assumption | rfl)), by (first | assumption | (simp only [upd_get, String.reduceEq, if_true, if_false]; done) | (simp only [upd_get, String.reduceEq, if_true, if_false]; first | assumption | rfl)), by (first | assumption | (simp only [upd_get, String.reduceEq, if_true, if_false]; done) | (simp only [upd_get, String.reduceEq, if_true, if_false]; first | assumption | rfl))⟩, ?_, ys, y, ?_⟩
      · rw [Hp.set_ne _ _ (Ne.symm x'.gi), Hp.set_ne _ _ (Hp.ne_of hit' hy)]; exact hit'
      · simp only [openG, hc, if_false, hp0]
        simpa [oAV] using hn
  refine EX_If ?_
  refine TST_BoolOp ?_
  refine ALLT_And_cons ?_
  refine TST_Compare1 ?_
  refine EV_local (by (first | assumption | (simp only [upd_get, String.reduceEq, if_true, if_false]; done) | (simp only [upd_get, String.reduceEq, if_true, if_false]; first | assumption | rfl))) ?_
  refine EV_List (EVS_nil ⟨sz rfl, fun e he heL => ?_⟩)
  have hls := x.ls.1
  have hle : Hp.Le hp (hp.set e (.list [])) := (Hp.Le.refl hp).set he _
  have x' : LG hb L it gA ys gs (hp.set e (.list [])) := { x with gl := hle _ _ x.gl, ls := ⟨x.ls.1, fun i y g hy hg => hle _ _ (x.ls.2 i y g hy hg)⟩, le := x.le.trans hle }
  have hit' := hle _ _ hit
  refine OP_neD (.list (.own x'.gl x'.gL) (RDs_groups x'.ls x'.yL)) (.list (.own (Hp.set_same ..) heL) .nil) (shaped_groups _) rfl hu (TRU_bool ?_)
  generalize hp.set e (.list []) = hp1 at *
  clear hle he
  by_cases hz : gs = []
  · rw [show (!(PyData.list (List.map gD gs)).eqv (PyData.list [])) = false from by rw [hz]; rfl, if_neg Bool.false_ne_true, if_neg Bool.false_ne_true]
    exact other hp1 x' hit' (fun h => h.1 hz)
  · rw [show (!(PyData.list (List.map gD gs)).eqv (PyData.list [])) = true from by cases gs with | nil => exact absurd rfl hz | cons g gs => rfl, if_pos rfl]
    refine ALLT_And_cons ?_
    refine TST_Compare1 ?_
    refine EV_BinOp ?_
    refine EV_local (by (first | assumption | (simp only [upd_get, String.reduceEq, if_true, if_false]; done) | (simp only [upd_get, String.reduceEq, if_true, if_false]; first | assumption | rfl))) ?_
    refine EV_local (by (first | assumption | (simp only [upd_get, String.reduceEq, if_true, if_false]; done) | (simp only [upd_get, String.reduceEq, if_true, if_false]; first | assumption | rfl))) ?_
    refine OP_sub ?_
    refine EV_local (by (first | assumption | (simp only [upd_get, String.reduceEq, if_true, if_false]; done) | (simp only [upd_get, String.reduceEq, if_true, if_false]; first | assumption | rfl))) ?_
    refine OP_le ?_
    refine TRU_bool ?_
    by_cases hr : p - n ≤ r
    · rw [decide_eq_true hr, if_pos rfl]
      refine ALLT_And_nil ?_
      rw [if_pos rfl]
      rcases List.eq_nil_or_concat gs with e | ⟨ini, g, e⟩
      · exact absurd e hz
      rw [List.concat_eq_append] at e
      subst e
      rcases List.eq_nil_or_concat ys with e | ⟨ys0, y, e⟩
      · rw [e] at hls; simp at hls
      rw [List.concat_eq_append] at e
      subst e
      have hgn := hg g (by simp)
      rcases List.eq_nil_or_concat g with e | ⟨g0, o, e⟩
      · exact absurd e hgn.1
      rw [List.concat_eq_append] at e
      subst e
      obtain ⟨t, s1, s2, s3, s4⟩ := o
      have hyl : hp1 y = some (.list (g0.map oAV ++ [oAV (t, s1, s2, s3, s4)])) := by rw [x'.last]; simp
      have hyL : y ≠ L := x'.yL y (by simp)
      have hyg : gA ≠ y := fun e => x'.gy (by simp [e])
      have hyi : it ≠ y := fun e => x'.iy (by simp [e])
      have hg0 : g0.length ≤ 500 := by have := hgn.2; simp at this; omega
      refine EXs_cons (EX_Assign (EV_pop (EV_lastG v3 x'.gl x'.gL ⟨y, g0.map oAV, _, rfl, hyl, hyL, by rw [List.length_map]; have := sizeLine_eq; omega, ?_⟩)))
      have xp := x'.put g0
      generalize hq : hp1.set y (.list (g0.map oAV)) = hp2 at *
      refine EXs_cons (EX_Expr (EV_append (EV_lastG (by (first | assumption | (simp only [upd_get, String.reduceEq, if_true, if_false]; done) | (simp only [upd_get, String.reduceEq, if_true, if_false]; first | assumption | rfl))) xp.gl xp.gL ⟨y, _, rfl, xp.last, hyL, ?_⟩)))
      refine EVS_cons ?_
      refine EV_Tuple ?_
      refine EVS_cons ?_
      refine EV_strc ?_
      refine EVS_cons ?_
      refine EV_Subscript ?_
      refine EV_local (by (first | assumption | (simp only [upd_get, String.reduceEq, if_true, if_false]; done) | (simp only [upd_get, String.reduceEq, if_true, if_false]; first | assumption | rfl))) ?_
      refine EV_int ?_
      refine SUB_tup (j := 1) (x := .int s1) (by decide) (by decide) rfl rfl ?_
      refine EVS_cons ?_
      refine EV_local (by (first | assumption | (simp only [upd_get, String.reduceEq, if_true, if_false]; done) | (simp only [upd_get, String.reduceEq, if_true, if_false]; first | assumption | rfl))) ?_
      refine EVS_cons ?_
      refine EV_Subscript ?_
      refine EV_local (by (first | assumption | (simp only [upd_get, String.reduceEq, if_true, if_false]; done) | (simp only [upd_get, String.reduceEq, if_true, if_false]; first | assumption | rfl))) ?_
      refine EV_int ?_
      refine SUB_tup (j := 3) (x := .int s3) (by decide) (by decide) rfl rfl ?_
      refine EVS_cons ?_
      refine EV_local (by (first | assumption | (simp only [upd_get, String.reduceEq, if_true, if_false]; done) | (simp only [upd_get, String.reduceEq, if_true, if_false]; first | assumption | rfl))) ?_
      refine EVS_nil ?_
      refine ⟨sz rfl, ?_⟩
      refine EVS_nil ?_
      refine ⟨_, _, rfl, xp.last, by rw [List.length_map]; exact sz' (by omega), by simp, by simp, by simp, ?_⟩
      refine EXs_nil ?_
      have xn := xp.put (g0 ++ [("equal", s1, i1, s3, j1)])
      refine ⟨rfl, ⟨by (first | assumption | (simp only [upd_get, String.reduceEq, if_true, if_false]; done) | (simp only [upd_get, String.reduceEq, if_true, if_false]; first | assumption | rfl)), by (first | assumption | (simp only [upd_get, String.reduceEq, if_true, if_false]; done) | (simp only [upd_get, String.reduceEq, if_true, if_false]; first | assumption | rfl)), by (first | assumption | (simp only [upd_get, String.reduceEq, if_true, if_false]; done) | (simp only [upd_get, String.reduceEq, if_true, if_false]; first | assumption | rfl)), by (first | assumption | (simp only [upd_get, String.reduceEq, if_true, if_false]; done) | (simp only [upd_get, String.reduceEq, if_true, if_false]; first | assumption | rfl)), by (first | assumption | (simp only [upd_get, String.reduceEq, if_true, if_false]; done) | (simp only [upd_get, String.reduceEq, if_true, if_false]; first | assumption | rfl)), by (first | assumption | (simp only [upd_get, String.reduceEq, if_true, if_false]; done) | (simp only [upd_get, String.reduceEq, if_true, if_false]; first | assumption | rfl)), by (first | assumption | (simp only [upd_get, String.reduceEq, if_true, if_false]; done) | (simp only [upd_get, String.reduceEq, if_true, if_false]; first | assumption | rfl))⟩, ⟨by (first | assumption | (simp only [upd_get, String.reduceEq, if_true, if_false]; done) | (simp only [upd_get, String.reduceEq, if_true, if_false]; first | assumption | rfl)), by (first | assumption | (simp only [upd_get, String.reduceEq, if_true, if_false]; done) | (simp only [upd_get, String.reduceEq, if_true, if_false]; first | assumption | rfl)), by (first | assumption | (simp only [upd_get, String.reduceEq, if_true, if_false]; done) | (simp only [upd_get, String.reduceEq, if_true, if_false]; first | assumption | rfl))⟩, ?_, ys0, y, ?_⟩
      · rw [Hp.set_ne _ _ hyi, ← hq, Hp.set_ne _ _ hyi]; exact hit'
      · have ho : openG n (ini ++ [g0 ++ [(t, s1, s2, s3, s4)]], i1, j1, p, r) = (ini, g0 ++ [("equal", s1, i1, s3, j1)]) := by
          simp [openG, hr, popLast]
        rw [ho]
        simpa [oAV] using xn
    · rw [decide_eq_false hr, if_neg Bool.false_ne_true, if_neg Bool.false_ne_true]
      exact other hp1 x' hit' (fun h => hr h.2)
end
end Mine

open PySem PySem.W PyProof.Rows PySem.Calls
set_option maxRecDepth 100000
namespace Mine
theorem blt_sum : bootBuiltins (PySem.Str.ofString "sum") = some (.builtin "sum") := by boot_fast
theorem no_sum (w : World) : nsIn (KW w) mainGlobals (S "sum") = some none := by kernel_rfl
section
variable {w : World} {A : Around} {E : Value → Shared → Prop} {B : Shared} {m : Loc} {hp hb : Hp} {L it gA y : Addr} {ys : List Addr} {n whole : Int} {st : LSt} {b : Blk} {ob : Obj} {k : Nat}
theorem lg_change (G : Gnd (KW w) B) (hh : A.handled = none) (hu : A.units + 64 < cLine) (V : LV n whole gA st m) (b' : LB b m) (x : LG hb L it gA ys st.1 hp) (hit : hp it = some (.obj ob)) (hbL : hb L = none) (hlen : st.1.length ≤ 300) (hg : ∀ g ∈ st.1, g ≠ [] ∧ g.length ≤ 500) (hc : st.2.1 < b.1 ∨ st.2.2.1 < b.2.1) :
    EXs (model PW w) A (fun _ _ => False) B (callEnv fdLG L 258) lgC m hp fun f m' hp' => f = .next ∧ LV n whole gA ((stepL whole n st b).1, st.2.1, st.2.2.1, st.2.2.2.1, (stepL whole n st b).2.2.2.2) m' ∧ LB b m' ∧ hp' it = some (.obj ob) ∧ ∃ ys, LG hb L it gA ys (stepL whole n st b).1 hp' := by
  conv => arg 6; whnf
  have hol : (openG n st).2.length ≤ 501 := by
    simp only [openG]
    split
    · rename_i h
      rcases List.eq_nil_or_concat st.1 with e | ⟨ini, l, e⟩
      · exact absurd e h.1
      · rw [List.concat_eq_append] at e
        have := (hg l (by rw [e]; simp)).2
        rw [e]
        simp [popLast]; omega
    · split <;> simp
  refine EXs_seq _ (lg_open G hh hu V b' x hit hbL hlen hg) ?_
  rintro m1 hp1 ⟨⟨v1, v2, v3, v4, v5, v6, v7⟩, ⟨w1, w2, w3⟩, hit1, ys0, y, x1⟩
  have hyL : y ≠ L := x1.yL y (by simp)
  have hyi : it ≠ y := fun e => x1.iy (by simp [e])
  refine EXs_seq (fun m' hp' => LV n whole gA st m' ∧ LB b m' ∧ hp' it = some (.obj ob) ∧ LG hb L it gA (ys0 ++ [y]) ((openG n st).1 ++ [(openG n st).2 ++ [(wordOf st.2.1 b.1 st.2.2.1 b.2.1, st.2.1, b.1, st.2.2.1, b.2.1)]]) hp') ?_ ?_
  · refine EX_Expr (EV_append (EV_lastG v3 x1.gl x1.gL ⟨y, _, rfl, x1.last, hyL, ?_⟩))
    have xn := x1.put ((openG n st).2 ++ [(wordOf st.2.1 b.1 st.2.2.1 b.2.1, st.2.1, b.1, st.2.2.1, b.2.1)])
    have fin : ∀ v, v = .str (S (wordOf st.2.1 b.1 st.2.2.1 b.2.1)) → EVS (model PW w) A (fun _ _ => False) B (callEnv fdLG L 258) (match lgS 1 with | .Expr (.Call _ [.Tuple (_ :: es) _ _] _ _) _ => es | _ => []) m1 hp1 fun vs hp₂ => vs.length + 1 ≤ sizeLine ∧ ∃ xs v', [AV.tup (v :: vs)] = [v'] ∧ hp₂ y = some (.list xs) ∧ xs.length ≤ sizeLine ∧ (∀ a, AV.none ≠ .ref a) ∧ (∀ xs, AV.none ≠ .tup xs) ∧ (∀ xs, AV.none ≠ .mat xs) ∧ AF.next = AF.next ∧ LV n whole gA st m1 ∧ LB b m1 ∧ (hp₂.set y (.list (xs ++ [v']))) it = some (.obj ob) ∧ LG hb L it gA (ys0 ++ [y]) ((openG n st).1 ++ [(openG n st).2 ++ [(wordOf st.2.1 b.1 st.2.2.1 b.2.1, st.2.1, b.1, st.2.2.1, b.2.1)]]) (hp₂.set y (.list (xs ++ [v']))) := by
      rintro v rfl
      conv => arg 6; whnf
      refine EVS_cons ?_
      refine EV_local (by (first | assumption | (simp only [upd_get, String.reduceEq, if_true, if_false]; done) | (simp only [upd_get, String.reduceEq, if_true, if_false]; first | assumption | rfl))) ?_
      refine EVS_cons ?_
      refine EV_local (by (first | assumption | (simp only [upd_get, String.reduceEq, if_true, if_false]; done) | (simp only [upd_get, String.reduceEq, if_true, if_false]; first | assumption | rfl))) ?_
      refine EVS_cons ?_
      refine EV_local (by (first | assumption | (simp only [upd_get, String.reduceEq, if_true, if_false]; done) | (simp only [upd_get, String.reduceEq, if_true, if_false]; first | assumption | rfl))) ?_
      refine EVS_cons ?_
      refine EV_local (by (first | assumption | (simp only [upd_get, String.reduceEq, if_true, if_false]; done) | (simp only [upd_get, String.reduceEq, if_true, if_false]; first | assumption | rfl))) ?_
      refine EVS_nil ?_
      refine ⟨sz rfl, ?_⟩
      refine ⟨_, _, rfl, x1.last, by rw [List.length_map]; exact sz' (by omega), by simp, by simp, by simp, rfl, ⟨v1, v2, v3, v4, v5, v6, v7⟩, ⟨w1, w2, w3⟩, by rw [Hp.set_ne _ _ hyi]; exact hit1, ?_⟩
      simpa [oAV] using xn
    refine EVS_cons (EV_Tuple (EVS_cons ?_))
    refine EV_IfExp ?_
    refine TST_Compare1 ?_
    refine EV_local (by (first | assumption | (simp only [upd_get, String.reduceEq, if_true, if_false]; done) | (simp only [upd_get, String.reduceEq, if_true, if_false]; first | assumption | rfl))) ?_
    refine EV_local (by (first | assumption | (simp only [upd_get, String.reduceEq, if_true, if_false]; done) | (simp only [upd_get, String.reduceEq, if_true, if_false]; first | assumption | rfl))) ?_
    refine OP_eq ?_
    refine TRU_bool ?_
    by_cases h1 : st.2.1 = b.1
    · rw [show (st.2.1 == b.1) = true from by simpa using h1, if_pos rfl]
      refine EV_strc ?_
      refine EVS.mono (fin (.str (S "insert")) (by simp [wordOf, h1])) ?_
      rintro vs hp2 ⟨hl, q⟩
      exact ⟨by simpa using hl, EVS_nil q⟩
    · rw [show (st.2.1 == b.1) = false from by simpa using h1, if_neg Bool.false_ne_true]
      refine EV_IfExp ?_
      refine TST_Compare1 ?_
      refine EV_local (by (first | assumption | (simp only [upd_get, String.reduceEq, if_true, if_false]; done) | (simp only [upd_get, String.reduceEq, if_true, if_false]; first | assumption | rfl))) ?_
      refine EV_local (by (first | assumption | (simp only [upd_get, String.reduceEq, if_true, if_false]; done) | (simp only [upd_get, String.reduceEq, if_true, if_false]; first | assumption | rfl))) ?_
      refine OP_eq ?_
      refine TRU_bool ?_
      by_cases h2 : st.2.2.1 = b.2.1
      · rw [show (st.2.2.1 == b.2.1) = true from by simpa using h2, if_pos rfl]
        refine EV_strc ?_
        refine EVS.mono (fin (.str (S "delete")) (by simp [wordOf, h1, h2])) ?_
        rintro vs hp2 ⟨hl, q⟩
        exact ⟨by simpa using hl, EVS_nil q⟩
      · rw [show (st.2.2.1 == b.2.1) = false from by simpa using h2, if_neg Bool.false_ne_true]
        refine EV_strc ?_
        refine EVS.mono (fin (.str (S "replace")) (by simp [wordOf, h1, h2])) ?_
        rintro vs hp2 ⟨hl, q⟩
        exact ⟨by simpa using hl, EVS_nil q⟩
  clear v1 v2 v3 v4 v5 v6 v7 w1 w2 w3 x1 hit1
  rintro m2 hp2 ⟨⟨v1, v2, v3, v4, v5, v6, v7⟩, ⟨w1, w2, w3⟩, hit1, x1⟩
  refine EXs_cons ?_
  refine EX_If ?_
  refine TST_Compare1 ?_
  refine EV_local (by (first | assumption | (simp only [upd_get, String.reduceEq, if_true, if_false]; done) | (simp only [upd_get, String.reduceEq, if_true, if_false]; first | assumption | rfl))) ?_
  refine EV_local (by (first | assumption | (simp only [upd_get, String.reduceEq, if_true, if_false]; done) | (simp only [upd_get, String.reduceEq, if_true, if_false]; first | assumption | rfl))) ?_
  refine OP_lt ?_
  refine TRU_bool ?_
  by_cases hw : st.2.2.2.1 < whole
  · rw [decide_eq_true hw, if_pos rfl]
    refine EXs_cons (EX_Assign (EV_CallB (EV_blt G (no_min w) blt_min (by decide) (fun _ => VR_bi) ⟨rfl, ?_⟩)))
    refine EVS_cons ?_
    refine EV_BinOp ?_
    refine EV_local (by (first | assumption | (simp only [upd_get, String.reduceEq, if_true, if_false]; done) | (simp only [upd_get, String.reduceEq, if_true, if_false]; first | assumption | rfl))) ?_
    refine EV_local (by (first | assumption | (simp only [upd_get, String.reduceEq, if_true, if_false]; done) | (simp only [upd_get, String.reduceEq, if_true, if_false]; first | assumption | rfl))) ?_
    refine OP_add ?_
    refine EVS_cons ?_
    refine EV_local (by (first | assumption | (simp only [upd_get, String.reduceEq, if_true, if_false]; done) | (simp only [upd_get, String.reduceEq, if_true, if_false]; first | assumption | rfl))) ?_
    refine EVS_nil ?_
    refine CL_min hh ?_
    have xn := x1.put ((openG n st).2 ++ [(wordOf st.2.1 b.1 st.2.2.1 b.2.1, st.2.1, b.1, st.2.2.1, b.2.1)] ++ [("equal", b.1, b.1 + imin (st.2.2.2.1 + n) whole - st.2.2.2.1, b.2.1, b.2.1 + imin (st.2.2.2.1 + n) whole - st.2.2.2.1)])
    refine EXs_cons (EX_Expr (EV_append (EV_lastG (by (first | assumption | (simp only [upd_get, String.reduceEq, if_true, if_false]; done) | (simp only [upd_get, String.reduceEq, if_true, if_false]; first | assumption | rfl))) x1.gl x1.gL ⟨y, _, rfl, x1.last, hyL, ?_⟩)))
    refine EVS_cons ?_
    refine EV_Tuple ?_
    refine EVS_cons ?_
    refine EV_strc ?_
    refine EVS_cons ?_
    refine EV_local (by (first | assumption | (simp only [upd_get, String.reduceEq, if_true, if_false]; done) | (simp only [upd_get, String.reduceEq, if_true, if_false]; first | assumption | rfl))) ?_
    refine EVS_cons ?_
    refine EV_BinOp ?_
    refine EV_BinOp ?_
    refine EV_local (by (first | assumption | (simp only [upd_get, String.reduceEq, if_true, if_false]; done) | (simp only [upd_get, String.reduceEq, if_true, if_false]; first | assumption | rfl))) ?_
    refine EV_local (by (first | assumption | (simp only [upd_get, String.reduceEq, if_true, if_false]; done) | (simp only [upd_get, String.reduceEq, if_true, if_false]; first | assumption | rfl))) ?_
    refine OP_add ?_
    refine EV_local (by (first | assumption | (simp only [upd_get, String.reduceEq, if_true, if_false]; done) | (simp only [upd_get, String.reduceEq, if_true, if_false]; first | assumption | rfl))) ?_
    refine OP_sub ?_
    refine EVS_cons ?_
    refine EV_local (by (first | assumption | (simp only [upd_get, String.reduceEq, if_true, if_false]; done) | (simp only [upd_get, String.reduceEq, if_true, if_false]; first | assumption | rfl))) ?_
    refine EVS_cons ?_
    refine EV_BinOp ?_
    refine EV_BinOp ?_
    refine EV_local (by (first | assumption | (simp only [upd_get, String.reduceEq, if_true, if_false]; done) | (simp only [upd_get, String.reduceEq, if_true, if_false]; first | assumption | rfl))) ?_
    refine EV_local (by (first | assumption | (simp only [upd_get, String.reduceEq, if_true, if_false]; done) | (simp only [upd_get, String.reduceEq, if_true, if_false]; first | assumption | rfl))) ?_
    refine OP_add ?_
    refine EV_local (by (first | assumption | (simp only [upd_get, String.reduceEq, if_true, if_false]; done) | (simp only [upd_get, String.reduceEq, if_true, if_false]; first | assumption | rfl))) ?_
    refine OP_sub ?_
    refine EVS_nil ?_
    refine ⟨sz rfl, ?_⟩
    refine EVS_nil ?_
    refine ⟨_, _, rfl, x1.last, by rw [List.length_map]; exact sz' (by simp; omega), by simp, by simp, by simp, ?_⟩
    refine EXs_nil ?_
    refine EXs_nil ?_
    refine ⟨rfl, ⟨by (first | assumption | (simp only [upd_get, String.reduceEq, if_true, if_false]; done) | (simp only [upd_get, String.reduceEq, if_true, if_false]; first | assumption | rfl)), by (first | assumption | (simp only [upd_get, String.reduceEq, if_true, if_false]; done) | (simp only [upd_get, String.reduceEq, if_true, if_false]; first | assumption | rfl)), by (first | assumption | (simp only [upd_get, String.reduceEq, if_true, if_false]; done) | (simp only [upd_get, String.reduceEq, if_true, if_false]; first | assumption | rfl)), by (first | assumption | (simp only [upd_get, String.reduceEq, if_true, if_false]; done) | (simp only [upd_get, String.reduceEq, if_true, if_false]; first | assumption | rfl)), by (first | assumption | (simp only [upd_get, String.reduceEq, if_true, if_false]; done) | (simp only [upd_get, String.reduceEq, if_true, if_false]; first | assumption | rfl)), by (first | assumption | (simp only [upd_get, String.reduceEq, if_true, if_false]; done) | (simp only [upd_get, String.reduceEq, if_true, if_false]; first | assumption | rfl)), ?_⟩, ⟨by (first | assumption | (simp only [upd_get, String.reduceEq, if_true, if_false]; done) | (simp only [upd_get, String.reduceEq, if_true, if_false]; first | assumption | rfl)), by (first | assumption | (simp only [upd_get, String.reduceEq, if_true, if_false]; done) | (simp only [upd_get, String.reduceEq, if_true, if_false]; first | assumption | rfl)), by (first | assumption | (simp only [upd_get, String.reduceEq, if_true, if_false]; done) | (simp only [upd_get, String.reduceEq, if_true, if_false]; first | assumption | rfl))⟩, by rw [Hp.set_ne _ _ hyi]; exact hit1, ys0 ++ [y], ?_⟩
    · simp only [stepL, hc, if_true, hw]; (first | assumption | (simp only [upd_get, String.reduceEq, if_true, if_false]; done) | (simp only [upd_get, String.reduceEq, if_true, if_false]; first | assumption | rfl))
    · simp only [stepL, hc, if_true, hw]
      simpa [oAV] using xn
  · rw [decide_eq_false hw, if_neg Bool.false_ne_true]
    refine EXs_nil ?_
    refine EXs_nil ?_
    refine ⟨rfl, ⟨v1, v2, v3, v4, v5, v6, ?_⟩, ⟨w1, w2, w3⟩, hit1, ys0 ++ [y], ?_⟩
    · simp only [stepL, hc, if_true, hw, if_false]; exact v7
    · simp only [stepL, hc, if_true, hw, if_false]
      simpa [oAV] using x1
theorem lg_turn {bl : List Blk} {Q : AF → Loc → Hp → Prop} (G : Gnd (KW w) B) (hh : A.handled = none) (hu : A.units + 64 < cLine) (hbl : bl.length ≤ 100) (hk : bl[k]? = some b) (V : LV n (wholeOf bl) gA (stL n bl k) m) (x : LG hb L it gA ys (stL n bl k).1 hp) (hit : hp it = some (.obj ob)) (hbL : hb L = none) :
    ASG (model PW w) A (fun _ _ => False) B (callEnv fdLG L 258) lgT (bAV b) m hp fun m' hp' => EXs (model PW w) A (fun _ _ => False) B (callEnv fdLG L 258) lgB m' hp'
      (fun fl m' hp' => match fl with | .next | .cont => (∃ ys, LV n (wholeOf bl) gA (stL n bl (k + 1)) m' ∧ LG hb L it gA ys (stL n bl (k + 1)).1 hp') ∧ hp' it = some (.obj ob) | .brk => Q .next m' hp' | .ret v => Q (.ret v) m' hp') := by
  obtain ⟨v1, v2, v3, v4, v5, v6, v7⟩ := V
  have hkl : k < bl.length := (List.getElem?_eq_some_iff.mp hk).1
  have hok := stL_ok (n := n) (bl := bl) k
  conv => arg 6; whnf
  refine ASG_Tuple hh rfl rfl rfl (ASGS_cons (ASG_Name (ASGS_cons (ASG_Name (ASGS_cons (ASG_Name (ASGS_nil ?_)))))))
  conv => arg 6; whnf
  generalize hm1 : upd (upd (upd m _ _) _ _) _ _ = m1
  have hV : LV n (wholeOf bl) gA (stL n bl k) m1 := by subst hm1; exact ⟨by (first | assumption | (simp only [upd_get, String.reduceEq, if_true, if_false]; done) | (simp only [upd_get, String.reduceEq, if_true, if_false]; first | assumption | rfl)), by (first | assumption | (simp only [upd_get, String.reduceEq, if_true, if_false]; done) | (simp only [upd_get, String.reduceEq, if_true, if_false]; first | assumption | rfl)), by (first | assumption | (simp only [upd_get, String.reduceEq, if_true, if_false]; done) | (simp only [upd_get, String.reduceEq, if_true, if_false]; first | assumption | rfl)), by (first | assumption | (simp only [upd_get, String.reduceEq, if_true, if_false]; done) | (simp only [upd_get, String.reduceEq, if_true, if_false]; first | assumption | rfl)), by (first | assumption | (simp only [upd_get, String.reduceEq, if_true, if_false]; done) | (simp only [upd_get, String.reduceEq, if_true, if_false]; first | assumption | rfl)), by (first | assumption | (simp only [upd_get, String.reduceEq, if_true, if_false]; done) | (simp only [upd_get, String.reduceEq, if_true, if_false]; first | assumption | rfl)), by (first | assumption | (simp only [upd_get, String.reduceEq, if_true, if_false]; done) | (simp only [upd_get, String.reduceEq, if_true, if_false]; first | assumption | rfl))⟩
  have hB : LB b m1 := by subst hm1; exact ⟨by (first | assumption | (simp only [upd_get, String.reduceEq, if_true, if_false]; done) | (simp only [upd_get, String.reduceEq, if_true, if_false]; first | assumption | rfl)), by (first | assumption | (simp only [upd_get, String.reduceEq, if_true, if_false]; done) | (simp only [upd_get, String.reduceEq, if_true, if_false]; first | assumption | rfl)), by (first | assumption | (simp only [upd_get, String.reduceEq, if_true, if_false]; done) | (simp only [upd_get, String.reduceEq, if_true, if_false]; first | assumption | rfl))⟩
  clear hm1 v1 v2 v3 v4 v5 v6 v7
  refine EXs_seq (fun m' hp' => LV n (wholeOf bl) gA ((stepL (wholeOf bl) n (stL n bl k) b).1, (stL n bl k).2.1, (stL n bl k).2.2.1, (stL n bl k).2.2.2.1, (stepL (wholeOf bl) n (stL n bl k) b).2.2.2.2) m' ∧ LB b m' ∧ hp' it = some (.obj ob) ∧ ∃ ys, LG hb L it gA ys (stepL (wholeOf bl) n (stL n bl k) b).1 hp') ?_ ?_
  · obtain ⟨v1, v2, v3, v4, v5, v6, v7⟩ := id hV
    obtain ⟨w1, w2, w3⟩ := id hB
    have change : ((stL n bl k).2.1 < b.1 ∨ (stL n bl k).2.2.1 < b.2.1) → EXs (model PW w) A (fun _ _ => False) B (callEnv fdLG L 258) lgC m1 hp fun f m' hp' => f = .next ∧ LV n (wholeOf bl) gA ((stepL (wholeOf bl) n (stL n bl k) b).1, (stL n bl k).2.1, (stL n bl k).2.2.1, (stL n bl k).2.2.2.1, (stepL (wholeOf bl) n (stL n bl k) b).2.2.2.2) m' ∧ LB b m' ∧ hp' it = some (.obj ob) ∧ ∃ ys, LG hb L it gA ys (stepL (wholeOf bl) n (stL n bl k) b).1 hp' := fun hc =>
      lg_change G hh hu hV hB x hit hbL (by omega) (fun g hg => ⟨(hok.2 g hg).1, by have := (hok.2 g hg).2; omega⟩) hc
    refine EX_If ?_
    refine TST_BoolOp ?_
    refine ALLT_Or_cons ?_
    refine TST_Compare1 ?_
    refine EV_local (by (first | assumption | (simp only [upd_get, String.reduceEq, if_true, if_false]; done) | (simp only [upd_get, String.reduceEq, if_true, if_false]; first | assumption | rfl))) ?_
    refine EV_local (by (first | assumption | (simp only [upd_get, String.reduceEq, if_true, if_false]; done) | (simp only [upd_get, String.reduceEq, if_true, if_false]; first | assumption | rfl))) ?_
    refine OP_lt ?_
    refine TRU_bool ?_
    by_cases h1 : (stL n bl k).2.1 < b.1
    · rw [decide_eq_true h1, if_pos rfl, if_pos rfl]
      exact change (.inl h1)
    · rw [decide_eq_false h1, if_neg Bool.false_ne_true]
      refine ALLT_Or_cons ?_
      refine TST_Compare1 ?_
      refine EV_local (by (first | assumption | (simp only [upd_get, String.reduceEq, if_true, if_false]; done) | (simp only [upd_get, String.reduceEq, if_true, if_false]; first | assumption | rfl))) ?_
      refine EV_local (by (first | assumption | (simp only [upd_get, String.reduceEq, if_true, if_false]; done) | (simp only [upd_get, String.reduceEq, if_true, if_false]; first | assumption | rfl))) ?_
      refine OP_lt ?_
      refine TRU_bool ?_
      by_cases h2 : (stL n bl k).2.2.1 < b.2.1
      · rw [decide_eq_true h2, if_pos rfl, if_pos rfl]
        exact change (.inr h2)
      · rw [decide_eq_false h2, if_neg Bool.false_ne_true]
        refine ALLT_Or_nil ?_
        rw [if_neg Bool.false_ne_true]
        refine EXs_nil ?_
        have e : stepL (wholeOf bl) n (stL n bl k) b = ((stL n bl k).1, b.1 + b.2.2, b.2.1 + b.2.2, (stL n bl k).2.2.2.1 + b.2.2, (stL n bl k).2.2.2.2) := by
          unfold stepL; rw [if_neg (by simp [h1, h2])]
        rw [e]
        exact ⟨rfl, hV, hB, hit, ys, x⟩
  clear x hV hB hit
  rintro m2 hp2 ⟨⟨v1, v2, v3, v4, v5, v6, v7⟩, ⟨w1, w2, w3⟩, hit1, ys1, x1⟩
  dsimp only at v4 v5 v6 v7
  refine EXs_cons (EX_AssignSw hh (names := [S "i1", S "j1", S "point"]) ?_)
  refine EV_Tuple ?_
  refine EVS_cons ?_
  refine EV_BinOp ?_
  refine EV_local (by (first | assumption | (simp only [upd_get, String.reduceEq, if_true, if_false]; done) | (simp only [upd_get, String.reduceEq, if_true, if_false]; first | assumption | rfl))) ?_
  refine EV_local (by (first | assumption | (simp only [upd_get, String.reduceEq, if_true, if_false]; done) | (simp only [upd_get, String.reduceEq, if_true, if_false]; first | assumption | rfl))) ?_
  refine OP_add ?_
  refine EVS_cons ?_
  refine EV_BinOp ?_
  refine EV_local (by (first | assumption | (simp only [upd_get, String.reduceEq, if_true, if_false]; done) | (simp only [upd_get, String.reduceEq, if_true, if_false]; first | assumption | rfl))) ?_
  refine EV_local (by (first | assumption | (simp only [upd_get, String.reduceEq, if_true, if_false]; done) | (simp only [upd_get, String.reduceEq, if_true, if_false]; first | assumption | rfl))) ?_
  refine OP_add ?_
  refine EVS_cons ?_
  refine EV_BinOp ?_
  refine EV_local (by (first | assumption | (simp only [upd_get, String.reduceEq, if_true, if_false]; done) | (simp only [upd_get, String.reduceEq, if_true, if_false]; first | assumption | rfl))) ?_
  refine EV_local (by (first | assumption | (simp only [upd_get, String.reduceEq, if_true, if_false]; done) | (simp only [upd_get, String.reduceEq, if_true, if_false]; first | assumption | rfl))) ?_
  refine OP_add ?_
  refine EVS_nil ?_
  refine ⟨sz rfl, ?_⟩
  refine ⟨_, rfl, rfl, ASGS_bind (ASGS_bind (ASGS_bind (ASGS_nil ?_)))⟩
  refine EXs_nil ?_
  have e : stL n bl (k + 1) = ((stepL (wholeOf bl) n (stL n bl k) b).1, b.1 + b.2.2, b.2.1 + b.2.2, (stL n bl k).2.2.2.1 + b.2.2, (stepL (wholeOf bl) n (stL n bl k) b).2.2.2.2) := by
    rw [stL_succ hk]; simp only [stepL]; split <;> rfl
  rw [e]
  exact ⟨⟨ys1, ⟨by (first | assumption | (simp only [upd_get, String.reduceEq, if_true, if_false]; done) | (simp only [upd_get, String.reduceEq, if_true, if_false]; first | assumption | rfl)), by (first | assumption | (simp only [upd_get, String.reduceEq, if_true, if_false]; done) | (simp only [upd_get, String.reduceEq, if_true, if_false]; first | assumption | rfl)), by (first | assumption | (simp only [upd_get, String.reduceEq, if_true, if_false]; done) | (simp only [upd_get, String.reduceEq, if_true, if_false]; first | assumption | rfl)), by (first | assumption | (simp only [upd_get, String.reduceEq, if_true, if_false]; done) | (simp only [upd_get, String.reduceEq, if_true, if_false]; first | assumption | rfl)), by (first | assumption | (simp only [upd_get, String.reduceEq, if_true, if_false]; done) | (simp only [upd_get, String.reduceEq, if_true, if_false]; first | assumption | rfl)), by (first | assumption | (simp only [upd_get, String.reduceEq, if_true, if_false]; done) | (simp only [upd_get, String.reduceEq, if_true, if_false]; first | assumption | rfl)), by (first | assumption | (simp only [upd_get, String.reduceEq, if_true, if_false]; done) | (simp only [upd_get, String.reduceEq, if_true, if_false]; first | assumption | rfl))⟩, x1⟩, hit1⟩
variable {env : Env}
theorem CL_lawG {bA : Addr} {bl : List Blk} {Q : AV → Hp → Prop} (G : Gnd (KW w) B) (hh : A.handled = none) (hu : A.units + 70 < cLine) (hroom : A.depth < recursionLimit) (hbl : bl.length ≤ 100) (hl : Lst B hp env.locals bA (bl.map bAV))
    (h : ∀ gA ys hp', hp' gA = some (.list (ys.map .ref)) → Ls hp' ys (lawG n bl) → gA ≠ env.locals → (∀ y ∈ ys, y ≠ env.locals) → (∀ z o, z ≠ env.locals → hp z = some o → hp' z = some o) → hp' env.locals = none → Q (.ref gA) hp') : CL (model PW w) A E B env (.ref 258) m [.ref bA, .int n] hp Q := by
  refine CD.cl (CD_fn (bs := [(S "n", .int n), (S "blocks", .ref bA)]) (body := dBody (topS PW 8)) G (kLG w) (by kernel_rfl) rfl hroom (fun s vs hv _ => ?_) (by kernel_rfl) (by decide) (fun L hL hLe => ?_))
  · obtain ⟨v, u, rfl, h1, h2⟩ := VRs_two hv
    exact ⟨[(S "blocks", v), (S "n", u)], BindsTo.of_eq rfl, rfl, by simp only [List.reverse_cons, List.reverse_nil, List.nil_append, List.cons_append, List.map_cons, List.map_nil, VRs]; exact ⟨_, _, rfl, h2, _, _, rfl, h1, rfl⟩⟩
  · have hl' : Lst B (hp.set env.locals (.ns m)) L bA (bl.map bAV) := hl.call hL
    have hLc : (hp.set env.locals (.ns m)) L = none := by rw [Hp.set_ne _ _ hLe]; exact hL
    have g0 : locOf [(S "n", AV.int n), (S "blocks", AV.ref bA)] (S "n") = some (.int n) := by simp only [locOf_get, if_true]
    have g1 : locOf [(S "n", AV.int n), (S "blocks", AV.ref bA)] (S "blocks") = some (.ref bA) := by simp only [locOf_get, String.reduceEq, if_false, if_true]
    generalize hm0 : locOf [(S "n", AV.int n), (S "blocks", AV.ref bA)] = m0 at *
    generalize hhc : hp.set env.locals (.ns m) = hpc at *
    conv => arg 6; whnf
    refine EXs_seq (fun m' hp' => m' (S "whole") = some (.int (wholeOf bl)) ∧ m' (S "n") = some (.int n) ∧ m' (S "blocks") = some (.ref bA) ∧ Hp.Le hpc hp') ?_ ?_
    · refine EX_Assign (EV_CallB (EV_blt G (no_sum w) blt_sum (by decide) (fun _ => VR_bi) ⟨rfl, EVS_cons ?_⟩))
      refine EV_CompL hh (closureFor_none (by decide)) (by decide) (by decide) (EV_local g1 ⟨bA, bl.map bAV, rfl, hl', by rw [List.length_map]; omega, fun it acc C hit hitL hac hacL haci hC hCL hCi hCa => ?_⟩)
      change it ≠ L at hitL
      change acc ≠ L at hacL
      refine ⟨fun i ys m₂ hp₂ => ys = (bl.take i).map (fun b => .int b.2.2) ∧ Hp.Le (hpc.set L (.ns m0)) hp₂, fun ob => ?_, fun i ys m₂ hp₂ ob x => ⟨x.1, x.2.set (by rw [Hp.set_ne _ _ hitL]; exact hit) _⟩, fun i ys m₂ hp₂ zs x => ⟨x.1, x.2.set (by rw [Hp.set_ne _ _ hacL]; exact hac) _⟩, fun i ys m₂ hp₂ x => ?_, fun i x ys m₂ hp₂ ob hx hI hob hac' => ?_, fun ys m₂ hp₂ hI hac' => ?_⟩
      · exact ⟨rfl, ((Hp.Le.refl _).set (by rw [Hp.set_ne _ _ hitL]; exact hit) _).set (by rw [Hp.set_ne _ _ hacL]; exact hac) _⟩
      · exact (hl'.call hC).le x.2
      · obtain ⟨b, hbk, rfl⟩ : ∃ b, bl[i]? = some b ∧ bAV b = x := by
          rw [List.getElem?_map] at hx
          exact Option.map_eq_some_iff.mp hx
        refine ASG_Tuple hh rfl rfl rfl (ASGS_cons (ASG_Name (ASGS_cons (ASG_Name (ASGS_cons (ASG_Name (ASGS_nil (TSTs_nil ?_))))))))
        rw [if_pos rfl]
        refine EV_local (by (first | assumption | (simp only [upd_get, String.reduceEq, if_true, if_false]; done) | (simp only [upd_get, String.reduceEq, if_true, if_false]; first | assumption | rfl))) ?_
        refine ⟨⟨?_, hI.2⟩, hob, hac'⟩
        rw [hI.1, List.take_add_one, hbk]
        simp
      · refine ⟨hpc.set acc (.list ys), fun z o hz => ?_, by rw [Hp.set_ne _ _ hCa]; exact hC, EVS_nil (CL_sum (ns := bl.map (·.2.2)) hh (.own ?_ hacL) ?_)⟩
        · by_cases hzi : z = it
          · subst hzi
            rw [show (callEnv fdLG L 258).locals = L from rfl, Hp.set_ne _ _ hitL, Hp.set_ne _ _ (Ne.symm haci), hit] at hz; cases hz
          · rw [Hp.del_ne _ hzi]
            by_cases hza : z = acc
            · subst hza
              rw [show (callEnv fdLG L 258).locals = L from rfl, Hp.set_ne _ _ hacL, Hp.set_same] at hz; rw [hac']; exact hz
            · refine hI.2 z o ?_
              by_cases hzL : z = L
              · subst hzL; rw [show (callEnv fdLG z 258).locals = z from rfl, Hp.set_same] at hz; rw [Hp.set_same]; exact hz
              · rw [show (callEnv fdLG L 258).locals = L from rfl, Hp.set_ne _ _ hzL, Hp.set_ne _ _ hza] at hz
                rw [Hp.set_ne _ _ hzL]; exact hz
        · rw [Hp.set_same, hI.1, List.length_map, List.take_length]; simp
        · exact ⟨rfl, by (first | assumption | (simp only [upd_get, String.reduceEq, if_true, if_false]; done) | (simp only [upd_get, String.reduceEq, if_true, if_false]; first | assumption | rfl)), by (first | assumption | (simp only [upd_get, String.reduceEq, if_true, if_false]; done) | (simp only [upd_get, String.reduceEq, if_true, if_false]; first | assumption | rfl)), by (first | assumption | (simp only [upd_get, String.reduceEq, if_true, if_false]; done) | (simp only [upd_get, String.reduceEq, if_true, if_false]; first | assumption | rfl)), (Hp.Le.refl _).set hac _⟩
    rintro m1 hp1 ⟨f1, f2, f3, f4⟩
    refine EXs_cons (EX_Assign (EV_List (EVS_nil ⟨sz rfl, fun gA hgA hgL => ?_⟩)))
    refine EXs_cons (EX_Assign4 (EV_int (ASG_Name (ASG_Name (ASG_Name (ASG_Name ?_))))))
    have hgc : hpc gA = none := f4.none hgA
    have hl1 : Lst B (hp1.set gA (.list [])) L bA (bl.map bAV) := hl'.le (f4.set hgc _)
    refine EXs_seq (fun m' hp' => ∃ ys, m' (S "groups") = some (.ref gA) ∧ hp' gA = some (.list (ys.map .ref)) ∧ Ls hp' ys (lawG n bl) ∧ Hp.Le hpc hp' ∧ (∀ y ∈ ys, hpc y = none) ∧ (∀ y ∈ ys, y ≠ L)) ?_ ?_
    · refine EX_ForL hh (EV_local (v := .ref bA) (by (first | assumption | (simp only [upd_get, String.reduceEq, if_true, if_false]; done) | (simp only [upd_get, String.reduceEq, if_true, if_false]; first | assumption | rfl))) ⟨bA, _, rfl, hl1, fun it hit hitL => ?_⟩)
      have hit1 : hp1 it = none := ((Hp.Le.refl _).set hgA _).none hit
      have hgi : gA ≠ it := Hp.ne_of (Hp.set_same ..) hit
      have hiti : hpc it = none := f4.none hit1
      refine ⟨fun k m' hp' => ∃ ys, LV n (wholeOf bl) gA (stL n bl k) m' ∧ LG hpc L it gA ys (stL n bl k).1 hp', fun ob => ?_, fun i m₂ hp₂ ob ⟨ys, V, x⟩ => ⟨ys, V, x.set hiti ob⟩, fun i m₂ hp₂ ⟨ys, V, x⟩ => hl'.le x.le, fun i y m₂ hp₂ ob hy ⟨ys, V, x⟩ hob => ?_, fun m₂ hp₂ ⟨ys, V, x⟩ => ?_⟩
      · refine ⟨[], ⟨by (first | assumption | (simp only [upd_get, String.reduceEq, if_true, if_false]; done) | (simp only [upd_get, String.reduceEq, if_true, if_false]; first | assumption | rfl)), by (first | assumption | (simp only [upd_get, String.reduceEq, if_true, if_false]; done) | (simp only [upd_get, String.reduceEq, if_true, if_false]; first | assumption | rfl)), by (first | assumption | (simp only [upd_get, String.reduceEq, if_true, if_false]; done) | (simp only [upd_get, String.reduceEq, if_true, if_false]; first | assumption | rfl)), by (first | assumption | (simp only [upd_get, String.reduceEq, if_true, if_false]; done) | (simp only [upd_get, String.reduceEq, if_true, if_false]; first | assumption | rfl)), by (first | assumption | (simp only [upd_get, String.reduceEq, if_true, if_false]; done) | (simp only [upd_get, String.reduceEq, if_true, if_false]; first | assumption | rfl)), by (first | assumption | (simp only [upd_get, String.reduceEq, if_true, if_false]; done) | (simp only [upd_get, String.reduceEq, if_true, if_false]; first | assumption | rfl)), by (first | assumption | (simp only [upd_get, String.reduceEq, if_true, if_false]; done) | (simp only [upd_get, String.reduceEq, if_true, if_false]; first | assumption | rfl))⟩, ⟨by rw [Hp.set_ne _ _ hgi, Hp.set_same]; rfl, ⟨rfl, fun i y g hy => by simp at hy⟩, by simp, by simp, hgc, by simp, (f4.set hgc _).set hiti _, hgL, by simp, hgi, by simp⟩⟩
      · obtain ⟨b, hbk, rfl⟩ : ∃ b, bl[i]? = some b ∧ bAV b = y := by
          rw [List.getElem?_map] at hy
          exact Option.map_eq_some_iff.mp hy
        refine ASG.mono (lg_turn (Q := fun _ _ _ => False) (A := A.deeper (callEnv fdLG L 258)) G hh (by show A.units + 3 + 64 < cLine; omega) hbl hbk V x hob hLc) fun m' hp' hx => hx.mono fun f m4 hp4 hq => ?_
        cases f <;> first | exact hq | exact hq.elim
      · rw [List.length_map] at x
        exact ⟨rfl, ys, V.hg, by rw [Hp.del_ne _ hgi]; exact x.gl, by rw [lawG_eq]; exact x.ls.del x.iy, x.le.del hiti, x.yb, x.yL⟩
    rintro m2 hp2 ⟨ys, k1, k2, k3, k4, k5, k6⟩
    refine EXs_cons ?_
    refine EX_Return ?_
    refine EV_local (by (first | assumption | (simp only [upd_get, String.reduceEq, if_true, if_false]; done) | (simp only [upd_get, String.reduceEq, if_true, if_false]; first | assumption | rfl))) ?_
    subst hhc
    have hge : gA ≠ env.locals := fun e => by rw [e, Hp.set_same] at hgc; cases hgc
    have hye : ∀ y ∈ ys, y ≠ env.locals := fun y hy e => by have := k5 y hy; rw [e, Hp.set_same] at this; cases this
    refine ret_ok (hp₂ := fun z => if z = env.locals ∨ z = L then none else hp2 z) (fun z o hz => ?_) (by simp) (h gA ys _ ?_ ?_ hge hye (fun z o hze hz => ?_) (by simp))
    · by_cases hze : z = env.locals
      · subst hze
        rw [Hp.set_same] at hz
        exact k4 _ _ (by rw [Hp.set_same]; exact hz)
      · rw [Hp.set_ne _ _ hze] at hz
        by_cases hzL : z = L
        · simp [hzL] at hz
        · simpa [hze, hzL] using hz
    · have hgL2 : gA ≠ L := hgL
      simp only [hge, hgL2, or_self, if_false]; exact k2
    · exact ⟨k3.1, fun i y g hy hg => by
        have hm := List.mem_of_getElem? hy
        simp only [hye y hm, k6 y hm, or_self, if_false]
        exact k3.2 i y g hy hg⟩
    · have hzL : z ≠ L := fun e => by rw [e, hL] at hz; cases hz
      simp only [hze, hzL, or_self, if_false]
      exact k4 _ _ (by rw [Hp.set_ne _ _ hze]; exact hz)
end
end Mine

open PySem PySem.W PyProof.Rows PySem.Calls
set_option maxRecDepth 100000
namespace Mine
def fdLaw : FuncData := fnD (topS PW 9) (S "law") .none .none 0 (.str (S "law_dm0058_03") 592) none (.ref 264) .none []
theorem kLaw (w : World) : (KW w).lookup 265 = some ⟨.type "function", none, .func fdLaw, #[]⟩ := rfl
theorem g_blocks (w : World) : nsIn (KW w) mainGlobals (S "_law_blocks") = some (some (.ref 253)) := by kernel_rfl
theorem g_groups (w : World) : nsIn (KW w) mainGlobals (S "_law_groups") = some (some (.ref 258)) := by kernel_rfl
theorem g_SM (w : World) : nsIn (KW w) mainGlobals (S "SequenceMatcher") = some (some (.ref 242)) := by kernel_rfl
theorem blt_list : bootBuiltins (PySem.Str.ofString "list") = some (.type "list") := by boot_fast
theorem no_list (w : World) : nsIn (KW w) mainGlobals (S "list") = some none := by kernel_rfl
def nOf (ns : List Int) : Int := iabs (ns.headD 0)
def restOf (ns : List Int) : List Int := ns.drop 1
theorem lawB_len (ns : List Int) : (lawB ns).length ≤ ns.length + 1 := by
  have := stB_len ns ns.length
  simp [lawB]; omega
section
variable {w : World} {A : Around} {B : Shared} {m : Loc} {hp : Hp}
theorem eqv_refl_groups (gs : List (List Op)) : (PyData.list (gs.map gD)).eqv (.list (gs.map gD)) = true := by
  have h1 : ∀ g : List Op, PyData.eqvAll (g.map oD) (g.map oD) = true := by
    intro g; induction g with
    | nil => rfl
    | cons o g ih => simp only [List.map_cons, PyData.eqvAll, ih, Bool.and_true]; simp [oD, PyData.eqv, PyData.eqvAll]
  have h2 : ∀ gs : List (List Op), PyData.eqvAll (gs.map gD) (gs.map gD) = true := by
    intro g; induction g with
    | nil => rfl
    | cons o g ih => simp only [List.map_cons, PyData.eqvAll, ih, Bool.and_true]; simp only [gD, PyData.eqv]; exact h1 o
  simp only [PyData.eqv]; exact h2 gs
theorem law_body {L l : Addr} {ns : List Int} (G : Gnd (KW w) B) (hh : A.handled = none) (hu : A.units + 80 < cLine) (hroom : A.depth + 20 < recursionLimit) (hlen : ns.length ≤ 63) (hl : Lst B hp L l (ns.map .int)) (hs : m (S "script") = some (.ref l)) (hp0 : hp L = none)
    (plain : groupsOf (nOf ns) (opsOf (lawB (restOf ns))) = lawG (nOf ns) (lawB (restOf ns))) :
    EXs (model PW w) A (fun _ _ => False) B (callEnv fdLaw L 265) (dBody (topS PW 9)) m hp fun f m' hp' => f = .ret (.bool true) := by
  conv => arg 6; whnf
  refine EXs_seq (fun m' hp' => m' (S "script") = some (.ref l) ∧ m' (S "n") = some (.int (nOf ns)) ∧ hp' = hp) ?_ ?_
  · refine EX_Assign ?_
    refine EV_IfExp ?_
    refine TST_value ?_
    refine EV_local (by (first | assumption | (simp only [upd_get, String.reduceEq, if_true, if_false]; done) | (simp only [upd_get, String.reduceEq, if_true, if_false]; first | assumption | rfl))) ?_
    refine TRU_lst hl (by rw [List.length_map]; exact sz' (by omega)) ?_
    cases ns with
    | nil =>
      rw [show (!(List.map AV.int []).isEmpty) = false from rfl, if_neg Bool.false_ne_true]
      refine EV_int ?_
      exact ⟨rfl, by (first | assumption | (simp only [upd_get, String.reduceEq, if_true, if_false]; done) | (simp only [upd_get, String.reduceEq, if_true, if_false]; first | assumption | rfl)), by (first | assumption | (simp only [upd_get, String.reduceEq, if_true, if_false]; done) | (simp only [upd_get, String.reduceEq, if_true, if_false]; first | assumption | rfl)), rfl⟩
    | cons x ns =>
      rw [show (!(List.map AV.int (x :: ns)).isEmpty) = true from rfl, if_pos rfl]
      refine EV_CallB (EV_blt G (no_abs w) blt_abs (by decide) (fun _ => VR_bi) ⟨rfl, EVS_cons ?_⟩)
      refine EV_Subscript ?_
      refine EV_local (by (first | assumption | (simp only [upd_get, String.reduceEq, if_true, if_false]; done) | (simp only [upd_get, String.reduceEq, if_true, if_false]; first | assumption | rfl))) ?_
      refine EV_int ?_
      refine SUB_list hl (by decide) (by decide) (x := .int x) rfl ?_
      refine EVS_nil ?_
      refine CL_abs ?_
      exact ⟨rfl, by (first | assumption | (simp only [upd_get, String.reduceEq, if_true, if_false]; done) | (simp only [upd_get, String.reduceEq, if_true, if_false]; first | assumption | rfl)), by (first | assumption | (simp only [upd_get, String.reduceEq, if_true, if_false]; done) | (simp only [upd_get, String.reduceEq, if_true, if_false]; first | assumption | rfl)), rfl⟩
  rintro m1 hp1 ⟨f1, f2, rfl⟩
  have hbl := lawB_len (restOf ns)
  have hrl : (restOf ns).length ≤ 62 := by simp [restOf]; omega
  generalize hbb : lawB (restOf ns) = bl at *
  generalize hnn : nOf ns = n at *
  refine EXs_seq (fun m' hp' => m' (S "n") = some (.int n) ∧ ∃ bA, m' (S "blocks") = some (.ref bA) ∧ hp' bA = some (.list (bl.map bAV)) ∧ bA ≠ L) ?_ ?_
  · refine EX_Assign (EV_CallF G (kBlocks w) rfl (EV_glob G (g_blocks w) (fun _ => VR_ref) ⟨rfl, EVS_cons (EV_Slice (EV_local f1 (EV_int ⟨l, ns.map .int, some 1, none, rfl, hl, by rw [List.length_map]; exact sz' (by omega), rfl, rfl, fun a ha haL => EVS_nil ?_⟩)))⟩))
    refine CL_blocks (ns := restOf ns) G hh (by omega) (by omega) (by omega) (.own ?_ haL) fun bA hbA hbL => ?_
    · rw [Hp.set_same]
      congr 2
      simp only [pick, Option.elim, restOf, List.length_map]
      rw [List.map_drop]
      rcases ns with _ | ⟨x, ns⟩
      · rfl
      · have : clipAt (x :: ns).length 1 = 1 := by simp [clipAt]; omega
        rw [this]; simp [List.take_of_length_le]
    · rw [hbb]
      exact ⟨rfl, by (first | assumption | (simp only [upd_get, String.reduceEq, if_true, if_false]; done) | (simp only [upd_get, String.reduceEq, if_true, if_false]; first | assumption | rfl)), bA, by (first | assumption | (simp only [upd_get, String.reduceEq, if_true, if_false]; done) | (simp only [upd_get, String.reduceEq, if_true, if_false]; first | assumption | rfl)), Hp.set_same .., hbL⟩
  rintro m2 hp2 ⟨f2, bA, f3, f4, f5⟩
  refine EXs_seq (fun m' hp' => m' (S "n") = some (.int n) ∧ m' (S "blocks") = some (.ref bA) ∧ hp' bA = some (.list (bl.map bAV)) ∧ ∃ x dx ma, m' (S "matcher") = some (.ref x) ∧ Ins hp' L x dx 242 ma ∧ bA ≠ x ∧ bA ≠ dx ∧
    ma (S "opcodes") = some .none ∧ ma (S "get_opcodes") = none ∧ ma (S "get_matching_blocks") = none ∧ ma (S "get_grouped_opcodes") = none) ?_ ?_
  · refine EX_Assign (EV_CallK G (f := 242) (by kernel_rfl) (EV_glob G (g_SM w) (fun _ => VR_ref) ⟨rfl, EVS_cons (EV_none (EVS_cons (EV_List (EVS_nil ⟨sz rfl, fun aA haA haL => EVS_cons (EV_List (EVS_nil ⟨sz rfl, fun cA hcA hcL => EVS_nil ?_⟩))⟩))))⟩))
    refine CL_SM G hh (by omega) (.own (Hp.set_same ..) hcL) fun x dx u1 u2 u3 hx hdx hxd hxL hdL => ?_
    have hb2 : ((hp2.set aA (.list [])).set cA (.list [])) bA = some (.list (bl.map bAV)) := by
      rw [Hp.set_ne _ _ (fun e => by rw [← e, Hp.set_ne _ _ (Hp.ne_of f4 haA), f4] at hcA; cases hcA), Hp.set_ne _ _ (Hp.ne_of f4 haA)]; exact f4
    refine ⟨rfl, by (first | assumption | (simp only [upd_get, String.reduceEq, if_true, if_false]; done) | (simp only [upd_get, String.reduceEq, if_true, if_false]; first | assumption | rfl)), by (first | assumption | (simp only [upd_get, String.reduceEq, if_true, if_false]; done) | (simp only [upd_get, String.reduceEq, if_true, if_false]; first | assumption | rfl)), ?_, x, dx, _, by (first | assumption | (simp only [upd_get, String.reduceEq, if_true, if_false]; done) | (simp only [upd_get, String.reduceEq, if_true, if_false]; first | assumption | rfl)), ⟨Hp.set_same .., by rw [Hp.set_ne _ _ (Ne.symm hxd), Hp.set_same], hxL, hdL⟩, Hp.ne_of hb2 hx, Hp.ne_of hb2 hdx, ?_, ?_, ?_, ?_⟩
    · rw [Hp.set_ne _ _ (Hp.ne_of hb2 hx), Hp.set_ne _ _ (Hp.ne_of hb2 hdx)]; exact hb2
    · unfold attrs0; (first | assumption | (simp only [upd_get, String.reduceEq, if_true, if_false]; done) | (simp only [upd_get, String.reduceEq, if_true, if_false]; first | assumption | rfl))
    · unfold attrs0; (first | assumption | (simp only [upd_get, String.reduceEq, if_true, if_false]; done) | (simp only [upd_get, String.reduceEq, if_true, if_false]; first | assumption | rfl))
    · unfold attrs0; (first | assumption | (simp only [upd_get, String.reduceEq, if_true, if_false]; done) | (simp only [upd_get, String.reduceEq, if_true, if_false]; first | assumption | rfl))
    · unfold attrs0; (first | assumption | (simp only [upd_get, String.reduceEq, if_true, if_false]; done) | (simp only [upd_get, String.reduceEq, if_true, if_false]; first | assumption | rfl))
  clear f2 f3 f4
  rintro m3 hp3 ⟨f2, f3, f4, x, dx, ma, k1, I, k2, k3, k4, k5, k6, k7⟩
  refine EXs_seq (fun m' hp' => m' (S "n") = some (.int n) ∧ m' (S "blocks") = some (.ref bA) ∧ hp' bA = some (.list (bl.map bAV)) ∧ m' (S "matcher") = some (.ref x) ∧ ∃ ma cA, Ins hp' L x dx 242 ma ∧ hp' cA = some (.list (bl.map bAV)) ∧ cA ≠ L ∧
    ma (S "matching_blocks") = some (.ref cA) ∧ ma (S "opcodes") = some .none ∧ ma (S "get_opcodes") = none ∧ ma (S "get_matching_blocks") = none ∧ ma (S "get_grouped_opcodes") = none) ?_ ?_
  · refine EX_AssignA (EV_Slice (EV_local f3 ⟨bA, bl.map bAV, none, none, rfl, .own f4 f5, by rw [List.length_map]; exact sz' (by omega), rfl, rfl, fun cA hcA hcL => ?_⟩))
    have hpk : pick (bl.map bAV) none none = bl.map bAV := by simp [pick, List.take_of_length_le]
    rw [hpk]
    have I1 : Ins (hp3.set cA (.list (bl.map bAV))) L x dx 242 ma := I.le ((Hp.Le.refl _).set hcA _)
    refine ASG_attr G (clsS w) (noTaker w (by (unfold attrNames; first | exact .head _ | exact .tail _ (.head _) | exact .tail _ (.tail _ (.head _)) | exact .tail _ (.tail _ (.tail _ (.head _))) | exact .tail _ (.tail _ (.tail _ (.tail _ (.head _)))) | exact .tail _ (.tail _ (.tail _ (.tail _ (.tail _ (.head _))))) | exact .tail _ (.tail _ (.tail _ (.tail _ (.tail _ (.tail _ (.head _)))))) | exact .tail _ (.tail _ (.tail _ (.tail _ (.tail _ (.tail _ (.tail _ (.head _))))))) | exact .tail _ (.tail _ (.tail _ (.tail _ (.tail _ (.tail _ (.tail _ (.tail _ (.head _)))))))) | exact .tail _ (.tail _ (.tail _ (.tail _ (.tail _ (.tail _ (.tail _ (.tail _ (.tail _ (.head _)))))))))))) (by (unfold attrNames; first | exact .head _ | exact .tail _ (.head _) | exact .tail _ (.tail _ (.head _)) | exact .tail _ (.tail _ (.tail _ (.head _))) | exact .tail _ (.tail _ (.tail _ (.tail _ (.head _)))) | exact .tail _ (.tail _ (.tail _ (.tail _ (.tail _ (.head _))))) | exact .tail _ (.tail _ (.tail _ (.tail _ (.tail _ (.tail _ (.head _)))))) | exact .tail _ (.tail _ (.tail _ (.tail _ (.tail _ (.tail _ (.tail _ (.head _))))))) | exact .tail _ (.tail _ (.tail _ (.tail _ (.tail _ (.tail _ (.tail _ (.tail _ (.head _)))))))) | exact .tail _ (.tail _ (.tail _ (.tail _ (.tail _ (.tail _ (.tail _ (.tail _ (.tail _ (.head _))))))))))) (EV_local k1 ⟨x, dx, ma, rfl, I1, ?_⟩)
    have hcd : cA ≠ dx := Ne.symm (Hp.ne_of I.at_ hcA)
    refine ⟨rfl, f2, f3, ?_, k1, _, cA, I1.put, ?_, hcL, ?_, ?_, ?_, ?_, ?_⟩
    · rw [Hp.set_ne _ _ k3, Hp.set_ne _ _ (Hp.ne_of f4 hcA)]; exact f4
    · rw [Hp.set_ne _ _ hcd, Hp.set_same]
    · (first | assumption | (simp only [upd_get, String.reduceEq, if_true, if_false]; done) | (simp only [upd_get, String.reduceEq, if_true, if_false]; first | assumption | rfl))
    · (first | assumption | (simp only [upd_get, String.reduceEq, if_true, if_false]; done) | (simp only [upd_get, String.reduceEq, if_true, if_false]; first | assumption | rfl))
    · (first | assumption | (simp only [upd_get, String.reduceEq, if_true, if_false]; done) | (simp only [upd_get, String.reduceEq, if_true, if_false]; first | assumption | rfl))
    · (first | assumption | (simp only [upd_get, String.reduceEq, if_true, if_false]; done) | (simp only [upd_get, String.reduceEq, if_true, if_false]; first | assumption | rfl))
    · (first | assumption | (simp only [upd_get, String.reduceEq, if_true, if_false]; done) | (simp only [upd_get, String.reduceEq, if_true, if_false]; first | assumption | rfl))
  clear f2 f3 f4 k1 I k4 k5 k6 k7
  rintro m4 hp4 ⟨f2, f3, f4, k1, ma, cA, I, f6, f7, k3, k4, k5, k6, k7⟩
  have cont : ∀ (sA : Addr) (ys : List Addr) (hp5 : Hp), sA ≠ L → hp5 sA = some (.list (ys.map .ref)) → Ls hp5 ys (groupsOf n (opsOf bl)) → (∀ y ∈ ys, y ≠ L) → hp5 bA = some (.list (bl.map bAV)) →
      EV (model PW w) A (fun _ _ => False) B (callEnv fdLaw L 265) (match (dBody (topS PW 9)).getD 4 (.Pass ⟨0, 0, 0, 0⟩) with | .Return (some (.Compare _ _ [e] _)) _ => e | _ => .Name (S "") ⟨0, 0, 0, 0⟩) m4 hp5 fun b hp₂ => OP2 (model PW w) A (fun _ _ => False) B (callEnv fdLaw L 265) (compareOp .Eq) m4 (.ref sA) b hp₂ fun v hp₃ => AF.ret v = .ret (.bool true) := by
    intro sA ys hp5 hsL hs5 hls hyL hb5
    conv => arg 6; whnf
    refine EV_CallF G (kLG w) rfl (EV_glob G (g_groups w) (fun _ => VR_ref) ⟨rfl, EVS_cons (EV_local f3 (EVS_cons (EV_local f2 (EVS_nil ?_))))⟩)
    refine CL_lawG (n := n) (bl := bl) G hh (by omega) (by omega) (by omega) (.own hb5 f5) fun gA zs hp6 hg6 hlz hgL hzL hle _ => ?_
    have hls6 : Ls hp6 ys (groupsOf n (opsOf bl)) := ⟨hls.1, fun i y g hy hg => hle _ _ (hyL y (List.mem_of_getElem? hy)) (hls.2 i y g hy hg)⟩
    refine OP_eqD (.list (.own (hle _ _ hsL hs5) hsL) (RDs_groups hls6 hyL)) (.list (.own hg6 hgL) (RDs_groups hlz hzL)) (shaped_groups _) (shaped_groups _) (by omega) ?_
    rw [plain, eqv_refl_groups]
  refine EXs_cons (EX_Return (EV_Compare1 ?_))
  refine EV_listGen (fd := fdGrp) (body := dBody (mS 9)) G (clsS w) (f := 218) (by kernel_rfl) (by kernel_rfl) (by kernel_rfl) hh (by omega) (kGrp w) (by kernel_rfl) rfl (by decide) ?_
  refine EV_blt G (no_list w) blt_list (by decide) (fun _ => VR_ty) ⟨rfl, EV_local k1 ⟨x, dx, ma, rfl, I, k7, EVS_cons (EV_local f2 (EVS_nil ?_))⟩⟩
  refine ⟨[(S "n", .int n), (S "self", .ref x)], 302, fun s ws hv hk => ?_, by kernel_rfl, fun gn h0 L' J sA go hL' hL'e hJ hJe hJL hS hSe hSL hSJ => ?_⟩
  · obtain ⟨v, u, rfl, h1, h2⟩ := VRs_two hv
    exact ⟨[(S "self", v), (S "n", u)], binds_K (G.X.keeps hk) rfl (by rfl) rfl rfl rfl, rfl, by simp only [List.reverse_cons, List.reverse_nil, List.nil_append, List.cons_append, List.map_cons, List.map_nil, VRs]; exact ⟨_, _, rfl, h2, _, _, rfl, h1, rfl⟩⟩
  change L' ≠ L at hL'e
  change J ≠ L at hJe
  change sA ≠ L at hSe
  have hJx : x ≠ J := Hp.ne_of I.ob hJ
  have hJd : dx ≠ J := Hp.ne_of I.at_ hJ
  have I1 : Ins (hp4.set L (.ns m4)) L' x dx 242 ma := I.call hL'
  have I2 : Ins ((hp4.set L (.ns m4)).set J (.obj go)) L' x dx 242 ma := I1.le ((Hp.Le.refl _).set (by rw [Hp.set_ne _ _ hJe]; exact hJ) _)
  have hJb : bA ≠ J := Hp.ne_of f4 hJ
  have hJc : cA ≠ J := Hp.ne_of f6 hJ
  refine gen_body (B := { B with gens := gn }) (A := A.in1.in1.in1) (bl := bl) (n := n) (hb := (hp4.set L (.ns m4)).set J (.obj go)) (hb0 := ((hp4.set L (.ns m4)).set J (.obj go)).del dx) ⟨G.X, G.top, G.lim⟩ hh ?_ (by omega) I2 k4 k3 k6 k5 (.own ?_ ?_) hSL ?_ (fun z o hz => ?_) (by simp [Hp.del]) (fun z o hz => ?_) (by simp only [locOf_get, String.reduceEq, if_false, if_true]) (by simp only [locOf_get, if_true]) ?_
  · show A.depth + 1 + 2 < recursionLimit
    omega
  · rw [Hp.set_ne _ _ hJc, Hp.set_ne _ _ f7]; exact f6
  · exact Hp.ne_of f6 hL'
  · rw [Hp.set_ne _ _ hSJ, Hp.set_ne _ _ hSe]; exact hS
  · by_cases e : z = dx
    · subst e; simp [Hp.del] at hz
    · rw [Hp.del_ne _ e] at hz; exact hz
  · have hzJ : z = J := by
      by_cases e : z = J
      · exact e
      · rw [Hp.set_ne _ _ e] at hz; cases hz
    subst hzJ
    rw [Hp.set_same] at hz
    rw [Hp.del_ne _ (Ne.symm hJd), Hp.set_same]; exact hz
  · intro hp' m' ys hs' hls hyL' hle
    have hdb : bA ≠ dx := fun e => by rw [e, I.at_] at f4; cases f4
    have hdL : L ≠ dx := Ne.symm I.dL
    have hLJ : L ≠ J := Ne.symm hJe
    have hpL : hp' L = some (.ns m4) := hle _ _ (by rw [Hp.del_ne _ hdL, Hp.set_ne _ _ hLJ, Hp.set_same])
    have hyL : ∀ y ∈ ys, y ≠ L := fun y hy e => by
      obtain ⟨g, hg⟩ := hls.mem hy
      rw [e, hpL] at hg; cases hg
    have hpb : hp' bA = some (.list (bl.map bAV)) := hle _ _ (by rw [Hp.del_ne _ hdb, Hp.set_ne _ _ hJb, Hp.set_ne _ _ f5]; exact f4)
    have hbL' : bA ≠ L' := Hp.ne_of f4 hL'
    refine ⟨fun z => if z = L ∨ z = L' then none else hp' z, fun z o hz => ?_, cont sA ys _ hSe ?_ ⟨hls.1, fun i y g hy hg => ?_⟩ hyL ?_⟩
    · change Hp.set _ L _ z = some o at hz
      show (hp'.set L' (.ns m')) z = some o
      by_cases hzL : z = L
      · subst hzL
        rw [Hp.set_same] at hz
        rw [Hp.set_ne _ _ (Ne.symm hL'e), hpL]; exact hz
      · rw [Hp.set_ne _ _ hzL] at hz
        by_cases hzL' : z = L'
        · simp [hzL'] at hz
        · rw [Hp.set_ne _ _ hzL']
          simpa [hzL, hzL'] using hz
    · simp only [hSe, hSL, or_self, if_false]; exact hs'
    · have hm := List.mem_of_getElem? hy
      simp only [hyL y hm, hyL' y hm, or_self, if_false]
      exact hls.2 i y g hy hg
    · simp only [f5, hbL', or_self, if_false]; exact hpb
end
end Mine

open PySem PySem.W PyProof.Rows PySem.Calls
set_option maxRecDepth 100000
namespace Mine
theorem VRs_of_ints {h : Heap} {vs : List Value} {ns : List Int} (x : IntsAre vs ns) : VRs h (ns.map .int) vs := by
  induction x with
  | nil => simp [VRs]
  | cons n t _ ih => simp only [List.map_cons, VRs]; exact ⟨_, _, rfl, VR_int, ih⟩
theorem holds (plain : ∀ ns : List Int, groupsOf (nOf ns) (opsOf (lawB (restOf ns))) = lawG (nOf ns) (lawB (restOf ns))) : PySem.Challenge.rw_dm0058_03.Holds := by
  refine head fun w s mean mg mb l vs ns T X hg hl hI hlen _ => ?_
  have G : Gnd (KW w) s := ⟨X, ⟨mg, mb, T.g, T.b, T.builtins⟩, T.nolimit⟩
  refine wpAny_call ?_
  refine codeAny_call_def (binds := [(S "script", .ref l)]) (body := dBody (topS PW 9)) (by decide) (X _ _ (kLaw w)) rfl T.nolimit (codeRec_of X (by kernel_rfl)) rfl (BindsTo.of_eq rfl) (by decide) (fun x hx => ?_) (fun h₀ hns hk₀ => ?_) rfl rfl rfl
  · simp only [List.mem_cons, List.not_mem_nil, or_false] at hx; subst hx; kernel_rfl
  · have rel : Rel s (Hp.set (fun _ => none) s.heap.objs.size (.ns (locOf [(S "script", .ref l)]))) { s with heap := h₀, toks := s.toks + 1 } := by
      refine ⟨fun b o e => hk₀ _ _ e, fun a o' e => ?_, rfl, ⟨by show AllBare s.gens; rw [hg]; exact fun y hy => by simp at hy, Nat.le_refl _⟩, ?_⟩
      · by_cases ha : a = s.heap.objs.size
        · subst ha
          rw [Hp.set_same] at e
          cases e
          exact ⟨Nat.le_refl _, _, hns, locR_of (bs := [(S "script", .ref l)]) (us := [(S "script", .ref l)].reverse) rfl (VRs.one VR_ref)⟩
        · rw [Hp.set_ne _ _ ha] at e; cases e
      · exact Nat.le_of_lt hns.lt
    refine wpAny_mono (law_body (A := callerA.deeper (callEnv fdLaw s.heap.objs.size 265)) (ns := ns) (hp := fun _ => none) (m := locOf [(S "script", .ref l)]) G rfl (show 4 + 3 + 80 < 9900 from by decide) (show 301 + 1 + 20 < 1000 from by decide) hlen (.inr ⟨vs.toArray, hl, VRs_of_ints hI⟩) (by simp only [locOf_get, if_true]) rfl (plain ns) _ rel) (fun f s' x => ?_) fun _ _ x => x.elim
    obtain ⟨af, m', hp', r', le', hf, e⟩ := x
    subst e
    obtain ⟨u, rfl, hu⟩ := hf
    simp only [VR] at hu; subst hu
    exact ⟨rfl, OldK.of_keep r'.keep, r'.os, r'.bare.1⟩
end Mine

open PySem PySem.W PyProof.Rows PySem.Calls
namespace Mine
def rawOps (i j : Int) : List Blk → List Op
  | [] => []
  | (a, c, s) :: r => (if tagOf i a j c = "" then [] else [(tagOf i a j c, i, a, j, c)]) ++ ((if s = 0 then [] else [("equal", a, a + s, c, c + s)]) ++ rawOps (a + s) (c + s) r)
theorem foldl_stepC (bl : List Blk) : ∀ (i j : Int) (l : List Op), (bl.foldl stepC (i, j, l)).2.2 = l ++ rawOps i j bl := by
  induction bl with
  | nil => intro i j l; simp [rawOps]
  | cons b bl ih =>
    obtain ⟨a, c, s⟩ := b
    intro i j l
    simp only [List.foldl_cons, stepC, ih, rawOps, List.append_assoc]
theorem opsOf_raw (bl : List Blk) : opsOf bl = rawOps 0 0 bl := by unfold opsOf; rw [foldl_stepC]; simp
def okB : Bool → Int → Int → List Blk → Prop
  | _, _, _, [] => False
  | f, i, j, (a, c, s) :: r => i ≤ a ∧ j ≤ c ∧ ((s = 0 ∧ r = []) ∨ (0 < s ∧ (f = true ∨ i < a ∨ j < c) ∧ okB false (a + s) (c + s) r))
def finG (st : GSt) : List (List Op) := if st.2 = [] ∨ (st.2.length = 1 ∧ (st.2.head?.map (·.1)) = some "equal") then st.1 else st.1 ++ [st.2]
theorem groupsOf_fin (n : Int) (l : List Op) : groupsOf n l = finG ((codesIn n l).foldl (stepG n) ([], [])) := rfl
def szs (bl : List Blk) : Int := (bl.map (·.2.2)).sum
theorem szs_cons (b : Blk) (bl : List Blk) : szs (b :: bl) = b.2.2 + szs bl := by simp [szs]
theorem szs_nn : ∀ {f : Bool} {i j : Int} {bl : List Blk}, okB f i j bl → 0 ≤ szs bl
  | f, i, j, [], h => by simp [okB] at h
  | f, i, j, (a, c, s) :: r, h => by
    simp only [okB] at h
    rw [szs_cons]
    rcases h.2.2 with ⟨rfl, rfl⟩ | ⟨hs, _, h'⟩
    · simp [szs]
    · have := szs_nn h'; simp only; omega
theorem lastTrim_cons (n : Int) (x : Op) (l : List Op) (h : l ≠ []) : lastTrim n (x :: l) = x :: lastTrim n l := by
  rcases List.eq_nil_or_concat l with e | ⟨ini, o, e⟩
  · exact absurd e h
  · rw [List.concat_eq_append] at e
    subst e
    obtain ⟨t, i1, i2, j1, j2⟩ := o
    have e1 : (x :: (ini ++ [(t, i1, i2, j1, j2)])).getLast? = some (t, i1, i2, j1, j2) := by rw [← List.cons_append, List.getLast?_append]; rfl
    have e2 : (ini ++ [(t, i1, i2, j1, j2)]).getLast? = some (t, i1, i2, j1, j2) := by rw [List.getLast?_append]; rfl
    have e3 : (x :: (ini ++ [(t, i1, i2, j1, j2)])).dropLast = x :: (ini ++ [(t, i1, i2, j1, j2)]).dropLast := by rw [List.dropLast_cons_of_ne_nil (by simp)]
    unfold lastTrim
    rw [e1, e2, e3]
    dsimp only
    split <;> simp
theorem lastTrim_change (n : Int) {t : String} {i1 i2 j1 j2 : Int} (h : t ≠ "equal") : lastTrim n [(t, i1, i2, j1, j2)] = [(t, i1, i2, j1, j2)] := by
  simp [lastTrim, h]
theorem lastTrim_eq (n : Int) {i1 i2 j1 j2 : Int} : lastTrim n [("equal", i1, i2, j1, j2)] = [("equal", i1, imin i2 (i1 + n), j1, imin j2 (j1 + n))] := by
  simp [lastTrim]
theorem tag_word {i a j c : Int} (h1 : i ≤ a) (h2 : j ≤ c) (h : i < a ∨ j < c) : tagOf i a j c = wordOf i a j c ∧ tagOf i a j c ≠ "" ∧ tagOf i a j c ≠ "equal" := by
  unfold tagOf wordOf
  by_cases ha : i < a
  · by_cases hc : j < c
    · simp [ha, hc, show i ≠ a by omega, show j ≠ c by omega]
    · simp [ha, hc, show i ≠ a by omega, show j = c by omega]
  · by_cases hc : j < c
    · simp [hc, show i = a by omega]
    · omega
theorem tag_none {i a j c : Int} (h : ¬ (i < a ∨ j < c)) : tagOf i a j c = "" := by
  unfold tagOf; rw [if_neg (by omega), if_neg (by omega)]
theorem stepG_change (n : Int) (st : GSt) {t : String} {i1 i2 j1 j2 : Int} (h : t ≠ "equal") : stepG n st (t, i1, i2, j1, j2) = (st.1, st.2 ++ [(t, i1, i2, j1, j2)]) := by
  simp [stepG, h]
theorem open_same {n p a c s W : Int} {D : List (List Op)} {g : List Op} (hn : 0 ≤ n) (hs : 0 < s) (hp : 0 ≤ p) (hW : p + s ≤ W) :
    openG n (D ++ [g ++ [("equal", a, a + imin (p + n) W - p, c, c + imin (p + n) W - p)]], a + s, c + s, p + s, imin (p + n) W) = stepG n (D, g) ("equal", a, a + s, c, c + s) := by
  by_cases h : s > n + n
  · have e1 : imin (p + n) W = p + n := by unfold imin; rw [if_neg (by omega)]
    have c1 : ¬ (p + s - n ≤ p + n) := by omega
    simp only [openG, e1, c1, and_false, if_false, stepG]
    have h' : a + s - a > n + n := by omega
    simp only [h', and_self, if_true]
    have e2 : imin n (p + s) = n := by unfold imin; rw [if_neg (by omega)]
    have e3 : imin (a + s) (a + n) = a + n := by unfold imin; rw [if_pos (by omega)]
    have e4 : imin (c + s) (c + n) = c + n := by unfold imin; rw [if_pos (by omega)]
    have e5 : imax a (a + s - n) = a + s - n := by unfold imax; rw [if_pos (by omega)]
    have e6 : imax c (c + s - n) = c + s - n := by unfold imax; rw [if_pos (by omega)]
    rw [if_pos (show 0 < p + s by omega), e2, e3, e4, e5, e6]
    have e7 : a + (p + n) - p = a + n := by omega
    have e8 : c + (p + n) - p = c + n := by omega
    rw [e7, e8]
  · have c1 : p + s - n ≤ imin (p + n) W := by unfold imin; split <;> omega
    have h' : ¬ (a + s - a > n + n) := by omega
    simp only [stepG, h', and_false, if_false]
    unfold openG
    rw [if_pos ⟨by simp, c1⟩]
    simp [popLast]
theorem finG_two {D : List (List Op)} {g : List Op} {x : Op} (h : g ≠ []) : finG (D, g ++ [x]) = D ++ [g ++ [x]] := by
  unfold finG
  rw [if_neg]
  intro h'
  rcases h' with h' | ⟨h', _⟩
  · simp at h'
  · simp at h'; exact h h'
theorem finG_change {D : List (List Op)} {g : List Op} {t : String} {i1 i2 j1 j2 : Int} (h : t ≠ "equal") : finG (D, g ++ [(t, i1, i2, j1, j2)]) = D ++ [g ++ [(t, i1, i2, j1, j2)]] := by
  cases g with
  | nil => simp [finG, h]
  | cons o g => exact finG_two (by simp)
theorem main_step {n W : Int} (hn : 0 ≤ n) : ∀ (rest : List Blk) (a c s p : Int) (D : List (List Op)) (g : List Op), okB false (a + s) (c + s) rest → 0 < s → 0 ≤ p → W = p + s + szs rest → g ≠ [] →
    finG ((lastTrim n (("equal", a, a + s, c, c + s) :: rawOps (a + s) (c + s) rest)).foldl (stepG n) (D, g)) =
      (rest.foldl (stepL W n) (D ++ [g ++ [("equal", a, a + imin (p + n) W - p, c, c + imin (p + n) W - p)]], a + s, c + s, p + s, imin (p + n) W)).1 := by
  intro rest
  induction rest with
  | nil => intro a c s p D g h; simp [okB] at h
  | cons b rest ih =>
    obtain ⟨a', c', s'⟩ := b
    intro a c s p D g h hs hp hW hg
    have hnn := szs_nn h
    simp only [okB] at h
    obtain ⟨ha, hc, h⟩ := h
    have hWs : p + s ≤ W := by omega
    rw [szs_cons] at hW
    dsimp only at hW
    by_cases hch : a + s < a' ∨ c + s < c'
    · obtain ⟨t1, t2, t3⟩ := tag_word ha hc hch
      have hst : stepL W n (D ++ [g ++ [("equal", a, a + imin (p + n) W - p, c, c + imin (p + n) W - p)]], a + s, c + s, p + s, imin (p + n) W) (a', c', s') =
          ((stepG n (D, g) ("equal", a, a + s, c, c + s)).1 ++ [(stepG n (D, g) ("equal", a, a + s, c, c + s)).2 ++ [(wordOf (a + s) a' (c + s) c', a + s, a', c + s, c')] ++
            (if p + s < W then [("equal", a', a' + imin (p + s + n) W - (p + s), c', c' + imin (p + s + n) W - (p + s))] else [])], a' + s', c' + s', p + s + s', if p + s < W then imin (p + s + n) W else imin (p + n) W) := by
        unfold stepL
        rw [if_pos hch, open_same hn hs hp hWs]
      rw [List.foldl_cons, hst]
      generalize hG : stepG n (D, g) ("equal", a, a + s, c, c + s) = G at *
      have hraw : rawOps (a + s) (c + s) ((a', c', s') :: rest) = (wordOf (a + s) a' (c + s) c', a + s, a', c + s, c') :: ((if s' = 0 then [] else [("equal", a', a' + s', c', c' + s')]) ++ rawOps (a' + s') (c' + s') rest) := by
        simp only [rawOps]; rw [if_neg t2, t1]; rfl
      rw [hraw, lastTrim_cons _ _ _ (by simp), List.foldl_cons, hG]
      rw [t1] at t3
      rcases h with ⟨rfl, rfl⟩ | ⟨hs', _, h'⟩
      · have : ¬ (p + s < W) := by rw [hW]; simp [szs]
        simp only [if_true, rawOps, List.append_nil, this, if_false, List.foldl_nil]
        rw [lastTrim_change n t3, List.foldl_cons, stepG_change n _ t3, List.foldl_nil, finG_change t3]
      · have hnn' := szs_nn h'
        rw [if_neg (by omega), List.singleton_append, lastTrim_cons _ _ _ (by simp), List.foldl_cons, stepG_change n _ t3]
        rw [if_pos (by omega), if_pos (by omega)]
        exact ih a' c' s' (p + s) G.1 (G.2 ++ [(wordOf (a + s) a' (c + s) c', a + s, a', c + s, c')]) h' hs' (by omega) (by omega) (by simp)
    · rcases h with ⟨rfl, rfl⟩ | ⟨_, hx, _⟩
      · have ea : a' = a + s := by omega
        have ec : c' = c + s := by omega
        subst ea; subst ec
        have hW' : W = p + s := by rw [hW]; simp [szs]
        have hraw : rawOps (a + s) (c + s) [(a + s, c + s, 0)] = [] := by simp only [rawOps]; rw [tag_none hch]; simp
        rw [hraw, lastTrim_eq, List.foldl_cons, List.foldl_nil, List.foldl_cons, List.foldl_nil]
        unfold stepL
        rw [if_neg hch]
        have hsm : ¬ (imin (a + s) (a + n) - a > n + n) := by unfold imin; split <;> omega
        simp only [stepG, hsm, and_false, if_false]
        rw [finG_two hg]
        have e1 : a + imin (p + n) W - p = imin (a + s) (a + n) := by unfold imin; rw [hW']; split <;> split <;> omega
        have e2 : c + imin (p + n) W - p = imin (c + s) (c + n) := by unfold imin; rw [hW']; split <;> split <;> omega
        rw [e1, e2]
      · rcases hx with hx | hx
        · cases hx
        · exact absurd hx hch
end Mine

open PySem PySem.W PyProof.Rows PySem.Calls
namespace Mine
theorem wholeOf_szs (bl : List Blk) : wholeOf bl = szs bl := rfl
theorem first_change {n W : Int} (hn : 0 ≤ n) {i a j c s p r : Int} {h : List Op} {rest : List Blk} (hst : openG n ([], i, j, p, r) = ([], h)) (ha : i ≤ a) (hc : j ≤ c) (hch : i < a ∨ j < c) (hp : 0 ≤ p) (hW : W = p + s + szs rest)
    (ok : (s = 0 ∧ rest = []) ∨ (0 < s ∧ okB false (a + s) (c + s) rest)) :
    finG ((lastTrim n (rawOps i j ((a, c, s) :: rest))).foldl (stepG n) ([], h)) = (((a, c, s) :: rest).foldl (stepL W n) ([], i, j, p, r)).1 := by
  obtain ⟨t1, t2, t3⟩ := tag_word ha hc hch
  have hs0 : stepL W n ([], i, j, p, r) (a, c, s) = ([h ++ [(wordOf i a j c, i, a, j, c)] ++ (if p < W then [("equal", a, a + imin (p + n) W - p, c, c + imin (p + n) W - p)] else [])], a + s, c + s, p + s, if p < W then imin (p + n) W else r) := by
    unfold stepL
    rw [if_pos hch, hst]
    rfl
  rw [List.foldl_cons, hs0]
  have hraw : rawOps i j ((a, c, s) :: rest) = (wordOf i a j c, i, a, j, c) :: ((if s = 0 then [] else [("equal", a, a + s, c, c + s)]) ++ rawOps (a + s) (c + s) rest) := by
    simp only [rawOps]; rw [if_neg t2, t1]; rfl
  rw [hraw]
  rw [t1] at t3
  rcases ok with ⟨rfl, rfl⟩ | ⟨hs', h'⟩
  · have : ¬ (p < W) := by rw [hW]; simp [szs]
    simp only [if_true, rawOps, List.append_nil, this, if_false, List.foldl_nil]
    rw [lastTrim_change n t3, List.foldl_cons, stepG_change n _ t3, List.foldl_nil, finG_change t3]
    rfl
  · have hnn' := szs_nn h'
    rw [if_neg (by omega), List.singleton_append, lastTrim_cons _ _ _ (by simp), List.foldl_cons, stepG_change n _ t3]
    rw [if_pos (by omega), if_pos (by omega)]
    exact main_step hn rest a c s p [] (h ++ [(wordOf i a j c, i, a, j, c)]) h' hs' hp hW (by simp)
theorem plain_ok {n : Int} (hn : 0 ≤ n) {bl : List Blk} (ok : okB true 0 0 bl) : groupsOf n (opsOf bl) = lawG n bl := by
  rw [groupsOf_fin, opsOf_raw]
  unfold lawG
  rw [wholeOf_szs]
  cases bl with
  | nil => simp [okB] at ok
  | cons b rest =>
    obtain ⟨a, c, s⟩ := b
    simp only [okB] at ok
    obtain ⟨ha, hc, ok⟩ := ok
    by_cases hch : 0 < a ∨ 0 < c
    · obtain ⟨t1, t2, t3⟩ := tag_word ha hc hch
      have ok' : (s = 0 ∧ rest = []) ∨ (0 < s ∧ okB false (a + s) (c + s) rest) := by
        rcases ok with h | ⟨h1, _, h2⟩
        · exact .inl h
        · exact .inr ⟨h1, h2⟩
      have hne : rawOps 0 0 ((a, c, s) :: rest) = (tagOf 0 a 0 c, 0, a, 0, c) :: ((if s = 0 then [] else [("equal", a, a + s, c, c + s)]) ++ rawOps (a + s) (c + s) rest) := by
        simp only [rawOps]; rw [if_neg t2]; rfl
      have hcod : codesIn n (rawOps 0 0 ((a, c, s) :: rest)) = lastTrim n (rawOps 0 0 ((a, c, s) :: rest)) := by
        unfold codesIn
        rw [hne, if_neg (by simp)]
        congr 1
        unfold headTrim
        dsimp only
        rw [if_neg t3]
      rw [hcod]
      exact first_change hn (by simp [openG]) ha hc hch (Int.le_refl _) (by rw [szs_cons]; simp) ok'
    · have ea : a = 0 := by omega
      have ec : c = 0 := by omega
      subst ea; subst ec
      rcases ok with ⟨rfl, rfl⟩ | ⟨hs, _, ok⟩
      · have hraw : rawOps 0 0 [(0, 0, 0)] = [] := by simp [rawOps, tagOf]
        rw [hraw]
        have : codesIn n [] = [("equal", imax 0 (1 - n), imin 1 (imax 0 (1 - n) + n), imax 0 (1 - n), imin 1 (imax 0 (1 - n) + n))] := by
          simp [codesIn, headTrim, lastTrim]
        rw [this]
        have hsm : ¬ (imin 1 (imax 0 (1 - n) + n) - imax 0 (1 - n) > n + n) := by unfold imin imax; split <;> split <;> omega
        simp only [List.foldl_cons, List.foldl_nil, stepG, hsm, and_false, if_false, stepL]
        simp [finG]
      · have hraw : rawOps 0 0 ((0, 0, s) :: rest) = ("equal", 0, s, 0, s) :: rawOps s s rest := by
          simp only [rawOps]; rw [tag_none hch, if_pos rfl, if_neg (by omega)]; simp
        rw [hraw]
        have hcod : codesIn n (("equal", 0, s, 0, s) :: rawOps s s rest) = lastTrim n (("equal", imax 0 (s - n), s, imax 0 (s - n), s) :: rawOps s s rest) := by
          unfold codesIn; rw [if_neg (by simp)]; rfl
        rw [hcod, List.foldl_cons]
        have hst : stepL (szs ((0, 0, s) :: rest)) n ([], 0, 0, 0, 0) (0, 0, s) = ([], s, s, s, 0) := by
          unfold stepL; rw [if_neg hch]; simp
        rw [hst]
        simp only [Int.zero_add] at ok
        have hsm : ¬ (s - imax 0 (s - n) > n + n) := by unfold imax; split <;> omega
        cases rest with
        | nil => simp [okB] at ok
        | cons b rest =>
          obtain ⟨a, c, s'⟩ := b
          simp only [okB] at ok
          obtain ⟨ha, hc, ok⟩ := ok
          by_cases hch' : s < a ∨ s < c
          · obtain ⟨t1, t2, t3⟩ := tag_word ha hc hch'
            have ok' : (s' = 0 ∧ rest = []) ∨ (0 < s' ∧ okB false (a + s') (c + s') rest) := by
              rcases ok with h | ⟨h1, _, h2⟩
              · exact .inl h
              · exact .inr ⟨h1, h2⟩
            rw [lastTrim_cons _ _ _ (by simp only [rawOps]; rw [if_neg t2]; simp), List.foldl_cons]
            have hsg : stepG n ([], []) ("equal", imax 0 (s - n), s, imax 0 (s - n), s) = ([], [("equal", imax 0 (s - n), s, imax 0 (s - n), s)]) := by
              simp only [stepG, hsm, and_false, if_false, List.nil_append]
            rw [hsg]
            refine first_change hn ?_ ha hc hch' (by omega) (by rw [szs_cons, szs_cons]; simp only; omega) ok'
            have e : s - imin n s = imax 0 (s - n) := by unfold imin imax; split <;> split <;> omega
            simp only [openG, ne_eq, not_true_eq_false, false_and, if_false]
            rw [if_pos hs, e]
          · rcases ok with ⟨rfl, rfl⟩ | ⟨_, hx, _⟩
            · have ea : a = s := by omega
              have ec : c = s := by omega
              subst ea; subst ec
              have hr2 : rawOps c c [(c, c, 0)] = [] := by simp only [rawOps]; rw [tag_none hch']; simp
              rw [hr2, lastTrim_eq]
              have hsm2 : ¬ (imin c (imax 0 (c - n) + n) - imax 0 (c - n) > n + n) := by unfold imin imax; split <;> split <;> omega
              simp only [List.foldl_cons, List.foldl_nil, stepG, hsm2, and_false, if_false, stepL, hch', if_false]
              simp [finG]
            · rcases hx with hx | hx
              · cases hx
              · exact absurd hx hch'
def endOf (i j : Int) : List Blk → Int × Int
  | [] => (i, j)
  | (a, c, s) :: r => endOf (a + s) (c + s) r
theorem endOf_snoc (i j : Int) (bl : List Blk) (b : Blk) : endOf i j (bl ++ [b]) = (b.1 + b.2.2, b.2.1 + b.2.2) := by
  induction bl generalizing i j with
  | nil => rfl
  | cons x bl ih => exact ih _ _
theorem okB_end {x y : Int} : ∀ {f : Bool} {i j : Int} {bl : List Blk}, okB f i j (bl ++ [((endOf i j bl).1, (endOf i j bl).2, 0)]) → (endOf i j bl).1 ≤ x → (endOf i j bl).2 ≤ y → okB f i j (bl ++ [(x, y, 0)])
  | f, i, j, [], h, hx, hy => by
    simp only [endOf] at hx hy
    simp [okB]; omega
  | f, i, j, (a, c, s) :: r, h, hx, hy => by
    simp only [List.cons_append, okB, endOf] at h hx hy ⊢
    refine ⟨h.1, h.2.1, ?_⟩
    rcases h.2.2 with ⟨_, h'⟩ | ⟨h1, h2, h3⟩
    · simp at h'
    · exact .inr ⟨h1, h2, okB_end h3 hx hy⟩
theorem okB_snoc {a c s : Int} (hs : 0 < s) : ∀ {f : Bool} {i j : Int} {bl : List Blk}, okB f i j (bl ++ [((endOf i j bl).1, (endOf i j bl).2, 0)]) → (endOf i j bl).1 ≤ a → (endOf i j bl).2 ≤ c → ((bl = [] ∧ f = true) ∨ (endOf i j bl).1 < a ∨ (endOf i j bl).2 < c) → okB f i j ((bl ++ [(a, c, s)]) ++ [(a + s, c + s, 0)])
  | f, i, j, [], h, hx, hy, hn => by
    simp only [endOf] at hx hy hn
    simp only [List.nil_append, List.cons_append, okB]
    refine ⟨hx, hy, .inr ⟨hs, ?_, by omega, by omega, .inl (by simp)⟩⟩
    rcases hn with h | h
    · exact .inl h.2
    · exact .inr h
  | f, i, j, (a', c', s') :: r, h, hx, hy, hn => by
    simp only [List.cons_append, okB, endOf] at h hx hy hn ⊢
    refine ⟨h.1, h.2.1, ?_⟩
    rcases h.2.2 with ⟨_, h'⟩ | ⟨h1, h2, h3⟩
    · simp at h'
    · refine .inr ⟨h1, h2, okB_snoc hs h3 hx hy ?_⟩
      rcases hn with h | h
      · simp at h
      · exact .inr h
theorem okB_grow {p q z t : Int} (ht : 0 < t) : ∀ {f : Bool} {i j x y : Int} {bl : List Blk}, okB f i j ((bl ++ [(p, q, z)]) ++ [(x, y, 0)]) → okB f i j ((bl ++ [(p, q, z + t)]) ++ [(p + (z + t), q + (z + t), 0)])
  | f, i, j, x, y, [], h => by
    simp only [List.nil_append, List.cons_append, okB] at h ⊢
    refine ⟨h.1, h.2.1, ?_⟩
    rcases h.2.2 with ⟨_, h'⟩ | ⟨h1, h2, h3⟩
    · simp at h'
    · exact .inr ⟨by omega, h2, by omega, by omega, .inl (by simp)⟩
  | f, i, j, x, y, (a', c', s') :: r, h => by
    simp only [List.cons_append, okB] at h ⊢
    refine ⟨h.1, h.2.1, ?_⟩
    rcases h.2.2 with ⟨_, h'⟩ | ⟨h1, h2, h3⟩
    · simp at h'
    · exact .inr ⟨h1, h2, okB_grow ht h3⟩
theorem iabs_nn (x : Int) : 0 ≤ iabs x := by unfold iabs; split <;> omega
theorem iabs_pos {x : Int} (h : x ≠ 0) : 0 < iabs x := by unfold iabs; split <;> omega
def okS (st : BSt) : Prop := okB true 0 0 (st.2.2 ++ [((endOf 0 0 st.2.2).1, (endOf 0 0 st.2.2).2, 0)]) ∧ (endOf 0 0 st.2.2).1 ≤ st.1 ∧ (endOf 0 0 st.2.2).2 ≤ st.2.1
theorem okS_step {st : BSt} (h : okS st) (k : Nat) (x : Int) : okS (stepB st k x) := by
  obtain ⟨i, j, bl⟩ := st
  obtain ⟨h1, h2, h3⟩ := h
  dsimp only at h1 h2 h3
  have hx := iabs_nn x
  unfold stepB
  dsimp only
  split
  · exact ⟨h1, by simp only; omega, h3⟩
  · split
    · exact ⟨h1, h2, by simp only; omega⟩
    · split
      · exact ⟨h1, h2, h3⟩
      · rename_i hx0
        have hxp := iabs_pos hx0
        rcases List.eq_nil_or_concat bl with e | ⟨ini, l, e⟩
        · subst e
          simp only [endOf] at h2 h3
          simp only [List.getLast?_nil, Option.getD_none, Int.add_zero, and_self, if_true, List.nil_append]
          refine ⟨?_, by simp [endOf], by simp [endOf]⟩
          simp only [List.cons_append, List.nil_append, endOf, okB]
          exact ⟨h2, h3, .inr ⟨by omega, .inl trivial, by omega, by omega, .inl (by simp)⟩⟩
        · rw [List.concat_eq_append] at e
          subst e
          obtain ⟨p, q, z⟩ := l
          rw [endOf_snoc] at h1 h2 h3
          simp only [List.getLast?_append, List.getLast?_singleton, Option.some_or, Option.getD_some]
          dsimp only at h1 h2 h3
          split
          · rename_i hc
            rw [if_neg (by simp), List.dropLast_concat]
            refine ⟨?_, by rw [endOf_snoc]; simp only; omega, by rw [endOf_snoc]; simp only; omega⟩
            dsimp only
            rw [endOf_snoc]
            exact okB_grow hxp h1
          · rename_i hc
            refine ⟨?_, by rw [endOf_snoc]; simp, by rw [endOf_snoc]; simp⟩
            dsimp only
            rw [endOf_snoc (b := (i, j, 0 + iabs x))]
            refine okB_snoc (by omega) (by rw [endOf_snoc]; exact h1) (by rw [endOf_snoc]; exact h2) (by rw [endOf_snoc]; exact h3) (.inr ?_)
            rw [endOf_snoc]; dsimp only
            omega
theorem okS_st (ns : List Int) : ∀ k, okS (stB ns k)
  | 0 => by refine ⟨?_, Int.le_refl _, Int.le_refl _⟩; simp [stB, okB, endOf]
  | k + 1 => okS_step (okS_st ns k) k _
theorem plain_law (ns : List Int) : groupsOf (nOf ns) (opsOf (lawB (restOf ns))) = lawG (nOf ns) (lawB (restOf ns)) := by
  refine plain_ok (iabs_nn _) ?_
  have h := okS_st (restOf ns) (restOf ns).length
  exact okB_end h.1 h.2.1 h.2.2
end Mine

set_option maxRecDepth 100000 in
set_option maxHeartbeats 8000000 in
theorem PySem.Challenge.cw_dm0058_03_holds : PySem.Challenge.rw_dm0058_03.Holds :=
  Mine.holds Mine.plain_law

