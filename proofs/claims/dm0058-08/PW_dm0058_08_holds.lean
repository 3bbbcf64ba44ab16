import PyProof.Rows.All
import Wide.All
import OpenK.AllK
import Wide.FinOn
import PySem.Challenge.RW_dm0058_08
set_option Elab.async false
set_option linter.all false
open PySem PySem.W PyProof.Rows
set_option maxRecDepth 100000
namespace Mine
noncomputable def anyA {α : Type} (as : Array α) (p : α → Bool) (start : Nat := 0) (stop : Nat := as.size) : Bool :=
  @Bool.rec (fun _ => Bool) (Array.any as p start stop) (PySem.W.R.anyR as.toList p) (Nat.beq start 0 && Nat.beq stop as.size)
theorem anyA_eq : @Array.any.{0} = @anyA := by
  funext α as p start stop
  unfold anyA
  cases h : (Nat.beq start 0 && Nat.beq stop as.size) with
  | false => rfl
  | true =>
    have h' := Bool.and_eq_true_iff.mp h
    have h1 := Nat.eq_of_beq_eq_true h'.1
    have h2 := Nat.eq_of_beq_eq_true h'.2
    subst h1; subst h2
    show as.any p = PySem.W.R.anyR as.toList p
    rw [← PySem.W.R.anyR_eq, Array.any_toList]
abbrev AnyT := {α : Type} → Array α → (α → Bool) → (start : Nat) → (stop : Nat) → Bool
inductive TEq : Builtin → Builtin → Type
  | refl (f : Builtin) : TEq f f
theorem TEq.toEq {a b : Builtin} (x : TEq a b) : a = b := by cases x; rfl
noncomputable def newPk : (G : AnyT → Builtin) × TEq PySem.W.Fast.tw4202317264376624991 (G @Array.any) := ⟨_, by
  delta PySem.W.Fast.tw4202317264376624991
  generalize (@Array.any : AnyT) = X
  exact TEq.refl _⟩
theorem newPk_eq : PySem.W.Fast.tw4202317264376624991 = newPk.1 @anyA := newPk.2.toEq.trans (congrArg newPk.1 anyA_eq)
noncomputable def tblA (id : String) : Option Builtin :=
  @Bool.rec (fun _ => Option Builtin) (PySem.W.Fast.tw14364793385576792824 id) (some (newPk.1 @anyA)) (Nat.beq (PySem.W.Fast.tw13482112738370960269 id) (PySem.W.Fast.tw13482112738370960269 "type.__new__"))
theorem tblA_eq : treeTable = tblA := by
  funext id
  unfold tblA
  rw [← PySem.W.Fast.te14364793385576792824, ← PySem.W.Fast.te13482112738370960269]
  cases h : Nat.beq (PySem.code id) (PySem.code "type.__new__") with
  | false => rfl
  | true =>
    have h1 := PySem.code_inj _ _ (Nat.eq_of_beq_eq_true h)
    subst h1
    show _ = some (newPk.1 @anyA)
    rw [← newPk_eq, ← PySem.W.Fast.te4202317264376624991]
    kernel_rfl
noncomputable def topRunT (tb : String → Option Builtin) (p : Program) (w : World) (n₀ : Nat) (ann : Option Value) : Nat → SharedT → Thread → Option SharedT
  | 0, _, _ => none
  | n + 1, s, t => match through t with
    | true => some s
    | false => match PySem.W.Fast.tw6613529449190102663 n₀ ann t with
      | false => none
      | true => match PySem.W.Fast.tw10156331382660048174 (PySem.W.Fast.tw11892475500146522536 tb) p w s t with
        | some (s', t') => topRunT tb p w n₀ ann n s' t'
        | none => none
noncomputable def bootT (P : Params) : BT :=
  .node (boot_o_0 P) (.node (boot_o_1 P) (.node (boot_o_3 P) (.node (boot_o_7 P) .nil .nil) .nil) (.node (boot_o_5 P) (.node (boot_o_9 P) .nil .nil) .nil))
    (.node (boot_o_2 P) (.node (boot_o_4 P) (.node (boot_o_8 P) .nil .nil) .nil) (.node (boot_o_6 P) (.node (boot_o_10 P) .nil .nil) .nil))
theorem boot_abs (P : Params) : absHeap (bootT P) 11 (boot_heap P).life = boot_heap P := rfl
theorem look : (PySem.Challenge.pw_dm0058_08.modules.isEmpty) = true := by k_qdec
noncomputable def S0 (w : World) (os : OsState) : SharedT := ⟨bootT w.params, 11, (boot_heap w.params).life, #[], boot_drawn, boot_toks, os⟩

noncomputable abbrev pT : Program := PySem.W.Fast.tw1612739578070508642
theorem pT_eq : PySem.Challenge.pw_dm0058_08 = pT := PySem.W.Fast.te1612739578070508642
noncomputable def theRun (w : World) (os : OsState) : Option SharedT := topRunT tblA pT w 11 (some (.ref 6)) 2300 (S0 w os) (topStub pT)
theorem topRunT_of {p : Program} {w : World} {n₀ : Nat} {ann : Option Value} : ∀ {n : Nat} {s s' : SharedT} {t : Thread}, topRunT tblA p w n₀ ann n s t = some s' → topRun treeTable p w n₀ ann n s.abs t = some s'.abs
  | 0, _, _, _, h => by cases h
  | n + 1, s, s', t, h => by
    unfold topRunT at h
    unfold topRun
    cases he : through t with
    | true => rw [he] at h; cases h; rfl
    | false =>
      rw [he] at h
      rw [← PySem.W.Fast.te6613529449190102663] at h
      cases hk : stepOk n₀ ann t with
      | false => rw [hk] at h; cases h
      | true =>
        rw [hk] at h
        rw [← PySem.W.Fast.te10156331382660048174, ← PySem.W.Fast.te11892475500146522536, ← tblA_eq] at h
        cases hs : stepT (denote treeTable) p w s t with
        | none => rw [hs] at h; cases h
        | some r => obtain ⟨s₂, t₂⟩ := r; rw [hs] at h; dsimp only; rw [stepT_spec hs]; rw [tblA_eq] at h; exact topRunT_of h
def qV : Program := view PySem.Challenge.pw_dm0058_08 [0, 2, 3, 4, 5, 7, 8]
def looseV : List PySem.Str := [PySem.Str.ofString "_tuplegetter", PySem.Str.ofString "Match", PySem.Str.ofString "SequenceMatcher"]


abbrev S (x : String) : PySem.Str := PySem.Str.ofString x
def topS (p : Program) (i : Nat) : Stmt := p.main.body.getD i (.Pass default)
def inS (c : Stmt) (i : Nat) : Stmt := match c with
  | .ClassDef _ _ _ b _ _ _ _ _ _ _ => b.getD i (.Pass default)
  | _ => .Pass default
def dParams : Stmt → Arguments
  | .FunctionDef _ a _ _ _ _ _ _ _ _ => a
  | _ => default
def dBody : Stmt → List Stmt
  | .FunctionDef _ _ b _ _ _ _ _ _ _ => b
  | .ClassDef _ _ _ b _ _ _ _ _ _ _ => b
  | _ => []
def dScope : Stmt → Scope
  | .FunctionDef _ _ _ _ _ _ sc _ _ _ => sc
  | _ => default
def dName : Stmt → PySem.Str
  | .FunctionDef n _ _ _ _ _ _ _ _ _ => n
  | _ => S ""
def docS (d : Stmt) : PySem.Str := match PySem.docOf (dBody d) with | some s => s | none => S ""
def docV (t : Nat) (b : List Stmt) : Value := match PySem.docOf b with | some s => .str s t | none => .none
def fnD (d : Stmt) (qual : PySem.Str) (dV kV : Value) (dt : Nat) (pm : Value) (an : Option Addr) (cd ct : Value) (cl : List (PySem.Str × Addr)) : FuncData :=
  { name := dName d, qualname := qual, params := dParams d, body := .stmts (dBody d), scope := dScope d, globals := 3, closure := cl, defaults := dV, kwdefaults := kV, doc := docV dt (dBody d), pyModule := pm, annotations := an, code := cd, closureTuple := ct, builtins := 0 }
def KP (p : Program) (P : Params) : Frag := [
  (2, ⟨.none, none, (.dict #[] 0), #[]⟩),
  (3, ⟨(.type "dict"), none, (.dict #[⟨(PyData.keyHash P (S "__name__")), (.str (S "__name__") 165), (.str (S "law_dm0058_08") 575)⟩, ⟨(PyData.keyHash P (S "__doc__")), (.str (S "__doc__") 166), .none⟩, ⟨(PyData.keyHash P (S "__package__")), (.str (S "__package__") 167), .none⟩, ⟨(PyData.keyHash P (S "__loader__")), (.str (S "__loader__") 168), (.builtin "__main__.__loader__#opaque")⟩, ⟨(PyData.keyHash P (S "__spec__")), (.str (S "__spec__") 169), .none⟩, ⟨(PyData.keyHash P (S "__annotations__")), (.str (S "__annotations__") 170), (.ref 6)⟩, ⟨(PyData.keyHash P (S "__builtins__")), (.str (S "__builtins__") 171), (.ref 4)⟩, ⟨(PyData.keyHash P (S "__file__")), (.str (S "__file__") 173), (.str (S "/claim/cut.py") 172)⟩, ⟨(PyData.keyHash P (S "__cached__")), (.str (S "__cached__") 174), .none⟩, ⟨(PyData.keyHash P (S "_wall")), (.str (S "_wall") 193), (.ref 21)⟩, ⟨(PyData.keyHash P (S "_tuplegetter")), (.str (S "_tuplegetter") 252), (.ref 60)⟩, ⟨(PyData.keyHash P (S "Match")), (.str (S "Match") 380), (.ref 135)⟩, ⟨(PyData.keyHash P (S "_calculate_ratio")), (.str (S "_calculate_ratio") 388), (.ref 145)⟩, ⟨(PyData.keyHash P (S "SequenceMatcher")), (.str (S "SequenceMatcher") 574), (.ref 242)⟩, ⟨(PyData.keyHash P (S "_law_places")), (.str (S "_law_places") 582), (.ref 251)⟩, ⟨(PyData.keyHash P (S "law")), (.str (S "law") 588), (.ref 256)⟩] 16), #[]⟩),
  (20, ⟨(.type "code"), none, (.fields #[(.str (S "_wall") 187), (.str (S "_wall") 188), (.str (S "/claim/cut.py") 189), (.int 1 0), (.int 1 0), (.int 0 0), (.int 0 0), (.int 3 0), (.ref 15), (.bool true), (.int 181 0), (.ref 16), .none, (.ref 17), (.ref 18), (.ref 19), (.int 191 0), (.int 1 0), (.str (S "/claim/cut.py") 192)]), #[]⟩),
  (21, ⟨(.type "function"), none, (.func (fnD (topS p 0) (S "_wall") .none .none 0 (.str (S "__main__") 164) none (.ref 20) .none [])), #[]⟩),
  (68, ⟨(.type "cell"), none, (.cell (some (.ref 135))), #[]⟩),
  (75, ⟨(.type "dict"), none, (.dict #[] 0), #[]⟩),
  (81, ⟨(.type "code"), none, (.fields #[(.str (S "__new__") 274), (.str (S "Match.__new__") 275), (.str (S "/claim/cut.py") 276), (.int 29 0), (.int 4 0), (.int 0 0), (.int 0 0), (.int 3 0), (.ref 76), (.bool true), (.int 181 0), (.ref 77), .none, (.ref 78), (.ref 79), (.ref 80), (.int 281 0), (.int 29 0), (.str (S "/claim/cut.py") 282)]), #[]⟩),
  (82, ⟨(.type "function"), none, (.func (fnD (inS (topS p 3) 4) (S "Match.__new__") .none .none 283 (.str (S "cpy313.difflib") 194) none (.ref 81) .none [])), #[]⟩),
  (88, ⟨(.type "code"), none, (.fields #[(.str (S "_make") 285), (.str (S "Match._make") 286), (.str (S "/claim/cut.py") 287), (.int 33 0), (.int 2 0), (.int 0 0), (.int 0 0), (.int 3 0), (.ref 83), (.bool true), (.int 181 0), (.ref 84), .none, (.ref 85), (.ref 86), (.ref 87), (.int 291 0), (.int 33 0), (.str (S "/claim/cut.py") 292)]), #[]⟩),
  (89, ⟨(.type "function"), none, (.func (fnD (inS (topS p 3) 5) (S "Match._make") .none .none 293 (.str (S "cpy313.difflib") 194) (some 92) (.ref 88) .none [])), #[]⟩),
  (90, ⟨(.type "dict"), none, (.dict #[⟨(PyData.keyHash P (S "__module__")), (.str (S "__module__") 295), (.str (S "cpy313.difflib") 194)⟩, ⟨(PyData.keyHash P (S "__name__")), (.str (S "__name__") 298), (.str (S "_make") 297)⟩, ⟨(PyData.keyHash P (S "__qualname__")), (.str (S "__qualname__") 301), (.str (S "Match._make") 300)⟩, ⟨(PyData.keyHash P (S "__doc__")), (.str (S "__doc__") 303), (.str (docS (inS (topS p 3) 5)) 293)⟩, ⟨(PyData.keyHash P (S "__annotations__")), (.str (S "__annotations__") 305), (.ref 92)⟩] 5), #[]⟩),
  (91, ⟨(.type "classmethod"), (some 90), (.fields #[(.ref 89), (.bool false)]), #[]⟩),
  (92, ⟨(.type "dict"), none, (.dict #[] 0), #[]⟩),
  (99, ⟨(.type "code"), none, (.fields #[(.str (S "_replace") 307), (.str (S "Match._replace") 308), (.str (S "/claim/cut.py") 309), (.int 41 0), (.int 1 0), (.int 1 0), (.int 0 0), (.int 11 0), (.ref 94), (.bool true), (.int 181 0), (.ref 95), .none, (.ref 96), (.ref 97), (.ref 98), (.int 314 0), (.int 41 0), (.str (S "/claim/cut.py") 315)]), #[]⟩),
  (100, ⟨(.type "function"), none, (.func (fnD (inS (topS p 3) 6) (S "Match._replace") .none .none 316 (.str (S "cpy313.difflib") 194) none (.ref 99) (.ref 93) [((S "__class__"), 68)])), #[]⟩),
  (106, ⟨(.type "code"), none, (.fields #[(.str (S "__repr__") 319), (.str (S "Match.__repr__") 320), (.str (S "/claim/cut.py") 321), (.int 52 0), (.int 1 0), (.int 0 0), (.int 0 0), (.int 3 0), (.ref 101), (.bool true), (.int 181 0), (.ref 102), .none, (.ref 103), (.ref 104), (.ref 105), (.int 323 0), (.int 52 0), (.str (S "/claim/cut.py") 324)]), #[]⟩),
  (107, ⟨(.type "function"), none, (.func (fnD (inS (topS p 3) 8) (S "Match.__repr__") .none .none 325 (.str (S "cpy313.difflib") 194) none (.ref 106) .none [])), #[]⟩),
  (113, ⟨(.type "code"), none, (.fields #[(.str (S "_asdict") 327), (.str (S "Match._asdict") 328), (.str (S "/claim/cut.py") 329), (.int 56 0), (.int 1 0), (.int 0 0), (.int 0 0), (.int 3 0), (.ref 108), (.bool true), (.int 181 0), (.ref 109), .none, (.ref 110), (.ref 111), (.ref 112), (.int 331 0), (.int 56 0), (.str (S "/claim/cut.py") 332)]), #[]⟩),
  (114, ⟨(.type "function"), none, (.func (fnD (inS (topS p 3) 9) (S "Match._asdict") .none .none 0 (.str (S "cpy313.difflib") 194) none (.ref 113) .none [])), #[]⟩),
  (120, ⟨(.type "code"), none, (.fields #[(.str (S "__getnewargs__") 334), (.str (S "Match.__getnewargs__") 335), (.str (S "/claim/cut.py") 336), (.int 59 0), (.int 1 0), (.int 0 0), (.int 0 0), (.int 3 0), (.ref 115), (.bool true), (.int 181 0), (.ref 116), .none, (.ref 117), (.ref 118), (.ref 119), (.int 338 0), (.int 59 0), (.str (S "/claim/cut.py") 339)]), #[]⟩),
  (121, ⟨(.type "function"), none, (.func (fnD (inS (topS p 3) 10) (S "Match.__getnewargs__") .none .none 340 (.str (S "cpy313.difflib") 194) none (.ref 120) .none [])), #[]⟩),
  (134, ⟨(.type "dict"), none, (.dict #[⟨(PyData.keyHash P (S "__module__")), (.str (S "__module__") 260), (.str (S "cpy313.difflib") 194)⟩, ⟨(PyData.keyHash P (S "__firstlineno__")), (.str (S "__firstlineno__") 264), (.int 23 263)⟩, ⟨(PyData.keyHash P (S "__doc__")), (.str (S "__doc__") 266), (.str (S "Match(a, b, size)") 265)⟩, ⟨(PyData.keyHash P (S "__slots__")), (.str (S "__slots__") 268), (.ref 73)⟩, ⟨(PyData.keyHash P (S "_fields")), (.str (S "_fields") 272), (.ref 74)⟩, ⟨(PyData.keyHash P (S "_field_defaults")), (.str (S "_field_defaults") 273), (.ref 75)⟩, ⟨(PyData.keyHash P (S "__new__")), (.str (S "__new__") 284), (.ref 136)⟩, ⟨(PyData.keyHash P (S "_make")), (.str (S "_make") 306), (.ref 91)⟩, ⟨(PyData.keyHash P (S "_replace")), (.str (S "_replace") 317), (.ref 100)⟩, ⟨(PyData.keyHash P (S "__replace__")), (.str (S "__replace__") 318), (.ref 100)⟩, ⟨(PyData.keyHash P (S "__repr__")), (.str (S "__repr__") 326), (.ref 107)⟩, ⟨(PyData.keyHash P (S "_asdict")), (.str (S "_asdict") 333), (.ref 114)⟩, ⟨(PyData.keyHash P (S "__getnewargs__")), (.str (S "__getnewargs__") 341), (.ref 121)⟩, ⟨(PyData.keyHash P (S "__match_args__")), (.str (S "__match_args__") 345), (.ref 122)⟩, ⟨(PyData.keyHash P (S "a")), (.str (S "a") 355), (.ref 124)⟩, ⟨(PyData.keyHash P (S "b")), (.str (S "b") 365), (.ref 127)⟩, ⟨(PyData.keyHash P (S "size")), (.str (S "size") 375), (.ref 130)⟩, ⟨(PyData.keyHash P (S "__static_attributes__")), (.str (S "__static_attributes__") 376), (.ref 132)⟩] 2), #[]⟩),
  (135, ⟨(.type "type"), none, (.cls { name := (S "Match"), bases := [(.type "tuple")], mro := [(.ref 135), (.type "tuple"), (.type "object")], ns := 134, qualname := (S "Match"), hasDict := false, slotNames := [], subclasses := [], abstract := false, collection := none, hasDel := false }), #[(some (.ref 65)), none, (some (.str (S "Match") 253)), (some (.str (S "Match") 261)), (some .none), (some (.bool false))]⟩),
  (136, ⟨(.type "staticmethod"), none, (.fields #[(.ref 82)]), #[]⟩),
  (144, ⟨(.type "code"), none, (.fields #[(.str (S "_calculate_ratio") 381), (.str (S "_calculate_ratio") 382), (.str (S "/claim/cut.py") 383), (.int 66 0), (.int 2 0), (.int 0 0), (.int 0 0), (.int 3 0), (.ref 139), (.bool true), (.int 181 0), (.ref 140), .none, (.ref 141), (.ref 142), (.ref 143), (.int 386 0), (.int 66 0), (.str (S "/claim/cut.py") 387)]), #[]⟩),
  (145, ⟨(.type "function"), none, (.func (fnD (topS p 4) (S "_calculate_ratio") .none .none 0 (.str (S "cpy313.difflib") 194) none (.ref 144) .none [])), #[]⟩),
  (153, ⟨(.type "tuple"), none, (.seq #[.none, (.str (S "") 404), (.str (S "") 405), (.bool true)] 0), #[]⟩),
  (159, ⟨(.type "code"), none, (.fields #[(.str (S "__init__") 406), (.str (S "SequenceMatcher.__init__") 407), (.str (S "/claim/cut.py") 408), (.int 145 0), (.int 5 0), (.int 0 0), (.int 0 0), (.int 3 0), (.ref 154), (.bool true), (.int 181 0), (.ref 155), .none, (.ref 156), (.ref 157), (.ref 158), (.int 414 0), (.int 145 0), (.str (S "/claim/cut.py") 415)]), #[]⟩),
  (160, ⟨(.type "function"), none, (.func (fnD (inS (topS p 5) 1) (S "SequenceMatcher.__init__") (.ref 153) .none 416 (.str (S "cpy313.difflib") 194) none (.ref 159) .none [])), #[]⟩),
  (166, ⟨(.type "code"), none, (.fields #[(.str (S "set_seqs") 418), (.str (S "SequenceMatcher.set_seqs") 419), (.str (S "/claim/cut.py") 420), (.int 173 0), (.int 3 0), (.int 0 0), (.int 0 0), (.int 3 0), (.ref 161), (.bool true), (.int 181 0), (.ref 162), .none, (.ref 163), (.ref 164), (.ref 165), (.int 424 0), (.int 173 0), (.str (S "/claim/cut.py") 425)]), #[]⟩),
  (167, ⟨(.type "function"), none, (.func (fnD (inS (topS p 5) 2) (S "SequenceMatcher.set_seqs") .none .none 426 (.str (S "cpy313.difflib") 194) none (.ref 166) .none [])), #[]⟩),
  (173, ⟨(.type "code"), none, (.fields #[(.str (S "set_seq1") 428), (.str (S "SequenceMatcher.set_seq1") 429), (.str (S "/claim/cut.py") 430), (.int 184 0), (.int 2 0), (.int 0 0), (.int 0 0), (.int 3 0), (.ref 168), (.bool true), (.int 181 0), (.ref 169), .none, (.ref 170), (.ref 171), (.ref 172), (.int 433 0), (.int 184 0), (.str (S "/claim/cut.py") 434)]), #[]⟩),
  (174, ⟨(.type "function"), none, (.func (fnD (inS (topS p 5) 3) (S "SequenceMatcher.set_seq1") .none .none 435 (.str (S "cpy313.difflib") 194) none (.ref 173) .none [])), #[]⟩),
  (180, ⟨(.type "code"), none, (.fields #[(.str (S "set_seq2") 437), (.str (S "SequenceMatcher.set_seq2") 438), (.str (S "/claim/cut.py") 439), (.int 209 0), (.int 2 0), (.int 0 0), (.int 0 0), (.int 3 0), (.ref 175), (.bool true), (.int 181 0), (.ref 176), .none, (.ref 177), (.ref 178), (.ref 179), (.int 442 0), (.int 209 0), (.str (S "/claim/cut.py") 443)]), #[]⟩),
  (181, ⟨(.type "function"), none, (.func (fnD (inS (topS p 5) 4) (S "SequenceMatcher.set_seq2") .none .none 444 (.str (S "cpy313.difflib") 194) none (.ref 180) .none [])), #[]⟩),
  (187, ⟨(.type "code"), none, (.fields #[(.str (S "__chain_b") 446), (.str (S "SequenceMatcher.__chain_b") 447), (.str (S "/claim/cut.py") 448), (.int 236 0), (.int 1 0), (.int 0 0), (.int 0 0), (.int 3 0), (.ref 182), (.bool true), (.int 181 0), (.ref 183), .none, (.ref 184), (.ref 185), (.ref 186), (.int 461 0), (.int 236 0), (.str (S "/claim/cut.py") 462)]), #[]⟩),
  (188, ⟨(.type "function"), none, (.func (fnD (inS (topS p 5) 5) (S "SequenceMatcher.__chain_b") .none .none 0 (.str (S "cpy313.difflib") 194) none (.ref 187) .none [])), #[]⟩),
  (189, ⟨(.type "tuple"), none, (.seq #[(.int 0 464), .none, (.int 0 465), .none] 0), #[]⟩),
  (195, ⟨(.type "code"), none, (.fields #[(.str (S "find_longest_match") 466), (.str (S "SequenceMatcher.find_longest_match") 467), (.str (S "/claim/cut.py") 468), (.int 260 0), (.int 5 0), (.int 0 0), (.int 0 0), (.int 3 0), (.ref 190), (.bool true), (.int 181 0), (.ref 191), .none, (.ref 192), (.ref 193), (.ref 194), (.int 488 0), (.int 260 0), (.str (S "/claim/cut.py") 489)]), #[]⟩),
  (196, ⟨(.type "function"), none, (.func (fnD (inS (topS p 5) 6) (S "SequenceMatcher.find_longest_match") (.ref 189) .none 490 (.str (S "cpy313.difflib") 194) none (.ref 195) .none [])), #[]⟩),
  (202, ⟨(.type "code"), none, (.fields #[(.str (S "get_matching_blocks") 492), (.str (S "SequenceMatcher.get_matching_blocks") 493), (.str (S "/claim/cut.py") 494), (.int 335 0), (.int 1 0), (.int 0 0), (.int 0 0), (.int 3 0), (.ref 197), (.bool true), (.int 181 0), (.ref 198), .none, (.ref 199), (.ref 200), (.ref 201), (.int 515 0), (.int 335 0), (.str (S "/claim/cut.py") 516)]), #[]⟩),
  (203, ⟨(.type "function"), none, (.func (fnD (inS (topS p 5) 7) (S "SequenceMatcher.get_matching_blocks") .none .none 517 (.str (S "cpy313.difflib") 194) none (.ref 202) .none [])), #[]⟩),
  (209, ⟨(.type "code"), none, (.fields #[(.str (S "get_opcodes") 519), (.str (S "SequenceMatcher.get_opcodes") 520), (.str (S "/claim/cut.py") 521), (.int 383 0), (.int 1 0), (.int 0 0), (.int 0 0), (.int 3 0), (.ref 204), (.bool true), (.int 181 0), (.ref 205), .none, (.ref 206), (.ref 207), (.ref 208), (.int 523 0), (.int 383 0), (.str (S "/claim/cut.py") 524)]), #[]⟩),
  (210, ⟨(.type "function"), none, (.func (fnD (inS (topS p 5) 8) (S "SequenceMatcher.get_opcodes") .none .none 0 (.str (S "cpy313.difflib") 194) none (.ref 209) .none [])), #[]⟩),
  (211, ⟨(.type "tuple"), none, (.seq #[(.int 3 526)] 0), #[]⟩),
  (217, ⟨(.type "code"), none, (.fields #[(.str (S "get_grouped_opcodes") 527), (.str (S "SequenceMatcher.get_grouped_opcodes") 528), (.str (S "/claim/cut.py") 529), (.int 386 0), (.int 2 0), (.int 0 0), (.int 0 0), (.int 3 0), (.ref 212), (.bool true), (.int 181 0), (.ref 213), .none, (.ref 214), (.ref 215), (.ref 216), (.int 532 0), (.int 386 0), (.str (S "/claim/cut.py") 533)]), #[]⟩),
  (218, ⟨(.type "function"), none, (.func (fnD (inS (topS p 5) 9) (S "SequenceMatcher.get_grouped_opcodes") (.ref 211) .none 0 (.str (S "cpy313.difflib") 194) none (.ref 217) .none [])), #[]⟩),
  (224, ⟨(.type "code"), none, (.fields #[(.str (S "ratio") 535), (.str (S "SequenceMatcher.ratio") 536), (.str (S "/claim/cut.py") 537), (.int 389 0), (.int 1 0), (.int 0 0), (.int 0 0), (.int 3 0), (.ref 219), (.bool true), (.int 181 0), (.ref 220), .none, (.ref 221), (.ref 222), (.ref 223), (.int 540 0), (.int 389 0), (.str (S "/claim/cut.py") 541)]), #[]⟩),
  (225, ⟨(.type "function"), none, (.func (fnD (inS (topS p 5) 10) (S "SequenceMatcher.ratio") .none .none 542 (.str (S "cpy313.difflib") 194) none (.ref 224) .none [])), #[]⟩),
  (231, ⟨(.type "code"), none, (.fields #[(.str (S "quick_ratio") 544), (.str (S "SequenceMatcher.quick_ratio") 545), (.str (S "/claim/cut.py") 546), (.int 413 0), (.int 1 0), (.int 0 0), (.int 0 0), (.int 3 0), (.ref 226), (.bool true), (.int 181 0), (.ref 227), .none, (.ref 228), (.ref 229), (.ref 230), (.int 548 0), (.int 413 0), (.str (S "/claim/cut.py") 549)]), #[]⟩),
  (232, ⟨(.type "function"), none, (.func (fnD (inS (topS p 5) 11) (S "SequenceMatcher.quick_ratio") .none .none 0 (.str (S "cpy313.difflib") 194) none (.ref 231) .none [])), #[]⟩),
  (238, ⟨(.type "code"), none, (.fields #[(.str (S "real_quick_ratio") 551), (.str (S "SequenceMatcher.real_quick_ratio") 552), (.str (S "/claim/cut.py") 553), (.int 416 0), (.int 1 0), (.int 0 0), (.int 0 0), (.int 3 0), (.ref 233), (.bool true), (.int 181 0), (.ref 234), .none, (.ref 235), (.ref 236), (.ref 237), (.int 555 0), (.int 416 0), (.str (S "/claim/cut.py") 556)]), #[]⟩),
  (239, ⟨(.type "function"), none, (.func (fnD (inS (topS p 5) 12) (S "SequenceMatcher.real_quick_ratio") .none .none 0 (.str (S "cpy313.difflib") 194) none (.ref 238) .none [])), #[]⟩),
  (241, ⟨(.type "dict"), none, (.dict #[⟨(PyData.keyHash P (S "__module__")), (.str (S "__module__") 396), (.str (S "cpy313.difflib") 194)⟩, ⟨(PyData.keyHash P (S "__firstlineno__")), (.str (S "__firstlineno__") 400), (.int 70 399)⟩, ⟨(PyData.keyHash P (S "__doc__")), (.str (S "__doc__") 402), (.str (docS (topS p 5)) 401)⟩, ⟨(PyData.keyHash P (S "__init__")), (.str (S "__init__") 417), (.ref 160)⟩, ⟨(PyData.keyHash P (S "set_seqs")), (.str (S "set_seqs") 427), (.ref 167)⟩, ⟨(PyData.keyHash P (S "set_seq1")), (.str (S "set_seq1") 436), (.ref 174)⟩, ⟨(PyData.keyHash P (S "set_seq2")), (.str (S "set_seq2") 445), (.ref 181)⟩, ⟨(PyData.keyHash P (S "_SequenceMatcher__chain_b")), (.str (S "_SequenceMatcher__chain_b") 463), (.ref 188)⟩, ⟨(PyData.keyHash P (S "find_longest_match")), (.str (S "find_longest_match") 491), (.ref 196)⟩, ⟨(PyData.keyHash P (S "get_matching_blocks")), (.str (S "get_matching_blocks") 518), (.ref 203)⟩, ⟨(PyData.keyHash P (S "get_opcodes")), (.str (S "get_opcodes") 525), (.ref 210)⟩, ⟨(PyData.keyHash P (S "get_grouped_opcodes")), (.str (S "get_grouped_opcodes") 534), (.ref 218)⟩, ⟨(PyData.keyHash P (S "ratio")), (.str (S "ratio") 543), (.ref 225)⟩, ⟨(PyData.keyHash P (S "quick_ratio")), (.str (S "quick_ratio") 550), (.ref 232)⟩, ⟨(PyData.keyHash P (S "real_quick_ratio")), (.str (S "real_quick_ratio") 557), (.ref 239)⟩, ⟨(PyData.keyHash P (S "__static_attributes__")), (.str (S "__static_attributes__") 568), (.ref 240)⟩, ⟨(PyData.keyHash P (S "__dict__")), (.str (S "__dict__") 570), (.ref 243)⟩, ⟨(PyData.keyHash P (S "__weakref__")), (.str (S "__weakref__") 572), (.ref 244)⟩] 3), #[]⟩),
  (242, ⟨(.type "type"), none, (.cls { name := (S "SequenceMatcher"), bases := [(.type "object")], mro := [(.ref 242), (.type "object")], ns := 241, qualname := (S "SequenceMatcher"), hasDict := true, slotNames := [], subclasses := [], abstract := false, collection := none, hasDel := false }), #[none, none, (some (.str (S "SequenceMatcher") 389)), (some (.str (S "SequenceMatcher") 397)), (some (.builtin "object.__new__")), (some (.bool true))]⟩),
  (250, ⟨(.type "code"), none, (.fields #[(.str (S "_law_places") 577), (.str (S "_law_places") 578), (.str (S "/claim/cut.py") 579), (.int 419 0), (.int 4 0), (.int 0 0), (.int 0 0), (.int 3 0), (.ref 247), (.bool true), (.int 181 0), (.ref 248), .none, .none, .none, (.ref 249), (.int 580 0), (.int 419 0), (.str (S "/claim/cut.py") 581)]), #[]⟩),
  (251, ⟨(.type "function"), none, (.func (fnD (topS p 7) (S "_law_places") .none .none 0 (.str (S "law_dm0058_08") 575) none (.ref 250) .none [])), #[]⟩),
  (255, ⟨(.type "code"), none, (.fields #[(.str (S "law") 583), (.str (S "law") 584), (.str (S "/claim/cut.py") 585), (.int 422 0), (.int 1 0), (.int 0 0), (.int 0 0), (.int 3 0), (.ref 252), (.bool true), (.int 181 0), (.ref 253), .none, .none, .none, (.ref 254), (.int 586 0), (.int 422 0), (.str (S "/claim/cut.py") 587)]), #[]⟩),
  (256, ⟨(.type "function"), none, (.func (fnD (topS p 8) (S "law") .none .none 0 (.str (S "law_dm0058_08") 575) none (.ref 255) .none [])), #[]⟩)]
def Kas : List Addr := [2, 3, 20, 21, 68, 75, 81, 82, 88, 89, 90, 91, 92, 99, 100, 106, 107, 113, 114, 120, 121, 134, 135, 136, 144, 145, 153, 159, 160, 166, 167, 173, 174, 180, 181, 187, 188, 189, 195, 196, 202, 203, 209, 210, 211, 217, 218, 224, 225, 231, 232, 238, 239, 241, 242, 250, 251, 255, 256]

theorem Kas_eq (p : Program) (P : Params) : Kas = (KP p P).map (·.1) := rfl
noncomputable def xtV (s : Shared) : Bool := xlAt qV [] s && recOk [] s
noncomputable def obsT (w : World) (s : SharedT) := ((staticsOk (importedModules pT.main.body) (boot_heap w.params) s.abs.heap && namesBound pT s.abs.heap && gensDone s.abs && laidKept (boot_heap w.params) s.abs.heap),
  PySem.W.Fast.tw4187177175401517315 qV looseV (importedModules pT.main.body) xtV true s.abs, Kas.map s.abs.heap.get?, s.os)
set_option maxRecDepth 100000 in
theorem big : ∀ (w : World), (fun os => (theRun w os).map (obsT w)) = (fun os => some (true, openGood qV looseV, (KP pT w.params).map (fun p => some p.2), os)) := fun w => by kernel_rfl
end Mine

open PySem PySem.W PyProof.Rows
set_option maxRecDepth 100000
namespace Mine
def hkV : Hook := kHook (KP PySem.Challenge.pw_dm0058_08) Kas (Kas_eq _)
theorem bootV : ∀ w : World, (fencedOpening treeTable PySem.Challenge.pw_dm0058_08 w 4600).map (fun s => (s.heap, s.gens, s.drawn, s.toks)) = some (boot_heap w.params, Array.mk [], boot_drawn, boot_toks) :=
  boot_open rfl (by decide) (fun _ => rfl)
theorem sizeV (w : World) : ((boot_heap w.params).isNs mainGlobals && (Array.mk [] : Array GenState).size == 0, (boot_heap w.params).objs.size, (boot_heap w.params).nsMap mainGlobals "__annotations__") = (true, 11, some (.ref 6)) := by kernel_rfl
theorem s0_abs (w : World) (os : OsState) : (S0 w os).abs = ⟨boot_heap w.params, #[], boot_drawn, boot_toks, os⟩ := by
  unfold S0 SharedT.abs
  rw [boot_abs]
theorem runV {w : World} {os : OsState} {s' : SharedT} (hs : theRun w os = some s') : topRun treeTable PySem.Challenge.pw_dm0058_08 w 11 (some (.ref 6)) 4600 ⟨boot_heap w.params, #[], boot_drawn, boot_toks, os⟩ (topStub PySem.Challenge.pw_dm0058_08) = some s'.abs := by
  unfold theRun at hs
  have r := topRunT_of hs
  rw [s0_abs, ← pT_eq] at r
  exact topRun_mono 2300 _ _ _ _ r
theorem bigV (w : World) (os : OsState) : (theRun w os).map (obsT w) = some (true, openGood qV looseV, (KP pT w.params).map (fun p => some p.2), os) := congrFun (big w) os
theorem obsV {w : World} {os : OsState} {s' : SharedT} (hs : theRun w os = some s') : obsT w s' = (true, openGood qV looseV, (KP pT w.params).map (fun p => some p.2), os) := by
  have b := bigV w os
  rw [hs] at b
  exact Option.some.inj b
theorem look1 {w : World} {os : OsState} {s' : SharedT} (hs : theRun w os = some s') :
    (staticsOk (importedModules PySem.Challenge.pw_dm0058_08.main.body) (boot_heap w.params) s'.abs.heap && namesBound PySem.Challenge.pw_dm0058_08 s'.abs.heap && gensDone s'.abs && laidKept (boot_heap w.params) s'.abs.heap) = true := by
  rw [pT_eq]; exact congrArg (·.1) (obsV hs)
theorem look2 {w : World} {os : OsState} {s' : SharedT} (hs : theRun w os = some s') : openSeen qV looseV (importedModules PySem.Challenge.pw_dm0058_08.main.body) xtV true s'.abs = openGood qV looseV := by
  rw [pT_eq, PySem.W.Fast.te4187177175401517315]; exact congrArg (·.2.1) (obsV hs)
theorem look3 {w : World} {os : OsState} {s' : SharedT} (hs : theRun w os = some s') : Kas.map s'.abs.heap.get? = (KP PySem.Challenge.pw_dm0058_08 w.params).map (fun p => some p.2) := by
  rw [pT_eq]; exact congrArg (·.2.2.1) (obsV hs)
theorem topV {w : World} {os : OsState} {s' : SharedT} (hs : theRun w os = some s') : topFrom treeTable PySem.Challenge.pw_dm0058_08 w 4600 ⟨boot_heap w.params, #[], boot_drawn, boot_toks, os⟩ = some s'.abs := by
  obtain ⟨z1, z2, z3⟩ : _ ∧ _ ∧ _ := by simpa only [Prod.mk.injEq] using sizeV w
  unfold topFrom
  dsimp only
  rw [z1, z2, z3, runV hs]
  show (match staticsOk _ _ _ && namesBound _ _ && gensDone _ && laidKept _ _ with | true => _ | false => _) = _
  rw [look1 hs]
theorem someV (w : World) (os : OsState) : ∃ s', theRun w os = some s' := by
  have b := bigV w os
  revert b
  generalize theRun w os = x
  cases x with
  | none => intro b; cases b
  | some s' => intro _; exact ⟨s', rfl⟩
theorem look3' {w : World} {os : OsState} {s' : SharedT} (hs : theRun w os = some s') : Hook.obs hkV s'.abs = Hook.val hkV w := look3 hs
theorem lookV {w : World} {os : OsState} {s' : SharedT} (hs : theRun w os = some s') : (topFrom treeTable PySem.Challenge.pw_dm0058_08 w 4600 ⟨boot_heap w.params, #[], boot_drawn, boot_toks, os⟩).map (fun s => (openSeen qV looseV (importedModules PySem.Challenge.pw_dm0058_08.main.body) xtV true s, Hook.obs hkV s)) = some (openGood qV looseV, Hook.val hkV w) := by
  rw [topV hs]
  show some (openSeen qV looseV (importedModules PySem.Challenge.pw_dm0058_08.main.body) xtV true s'.abs, Hook.obs hkV s'.abs) = _
  rw [look2 hs, look3' hs]
theorem bootV' (w : World) : ∃ os, fencedOpening treeTable PySem.Challenge.pw_dm0058_08 w 4600 = some ⟨boot_heap w.params, #[], boot_drawn, boot_toks, os⟩ := by
  have b := bootV w
  revert b
  generalize fencedOpening treeTable PySem.Challenge.pw_dm0058_08 w 4600 = x
  cases x with
  | none => intro b; cases b
  | some s =>
    obtain ⟨h, gs, d, k, os⟩ := s
    intro b
    have b := Option.some.inj b
    have e1 : h = boot_heap w.params := congrArg (·.1) b
    have e2 : gs = #[] := congrArg (·.2.1) b
    have e3 : d = boot_drawn := congrArg (·.2.2.1) b
    have e4 : k = boot_toks := congrArg (·.2.2.2) b
    exact ⟨os, by rw [e1, e2, e3, e4]⟩
theorem left : LeftO PySem.Challenge.pw_dm0058_08 qV looseV xtV (Hook.obs hkV) (Hook.val hkV) 4600 := by
  intro w
  obtain ⟨os, e⟩ := bootV' w
  obtain ⟨s', hs⟩ := someV w os
  unfold openEnds
  rw [e]
  rw [Option.bind_some]
  exact lookV hs
end Mine

open PySem PySem.W PyProof.Rows
set_option maxRecDepth 100000
namespace Mine

abbrev WalkGoal (w : World) (s : Shared) (l : Addr) : Prop :=
  wpAny (model PySem.Challenge.pw_dm0058_08 w) callerA (call (.ref 256) [.ref l])
    (fun v s' => v = .bool true ∧ OldK s.heap s'.heap ∧ s'.os = s.os ∧ AllBare s'.gens) (fun _ _ => False) s
theorem mg_law {w : World} {h : Heap} {mg : PySem.Str → Option Value} (X : (KP PySem.Challenge.pw_dm0058_08 w.params).In h) (g : h.Ns mainGlobals mg) : mg (S "law") = some (.ref 256) := by
  obtain ⟨o, es, ep, ho, hd, _, hm⟩ := g
  rw [← hm]
  have e := X 3 _ (show _ = some _ from rfl)
  rw [show mainGlobals = 3 from rfl, e] at ho
  cases ho
  cases hd
  kernel_rfl
set_option maxHeartbeats 8000000 in
theorem head (walk : ∀ (w : World) (s : Shared) (mean : ExcName → Option Value) (mg mb : PySem.Str → Option Value) (l : Addr) (vs : List Value) (ns : List Int),
      Top qV (looseW qV looseV) mean mg mb s.heap → (KP PySem.Challenge.pw_dm0058_08 w.params).In s.heap → s.gens = #[] → s.heap.IsList l vs.toArray → IntsAre vs ns → ns.length ≤ 63 →
      (PyData.list (ns.map PyData.int)).layable0 = true → WalkGoal w s l) : PySem.Challenge.rw_dm0058_08.Holds := by
  w_on
  o_law
  refine holds_open (q := qV) (loose := looseV) (Xt := xtV) (XP := XL qV []) (Yf := Hook.obs hkV) (Ya := Hook.val hkV) (YP := Hook.says hkV) (N := 4600) left (Hook.of hkV) (Hook.keeps hkV) (fun s e => xl_of s (Bool.and_eq_true_iff.mp e).1) XL.keeps (by rfl) (by rfl) (by rfl) (fun s e => recFacts_of (Bool.and_eq_true_iff.mp e).2) (by rfl) (by assumption) (by decide +kernel) ⟨rfl, rfl, rfl, rfl, rfl, by decide +kernel⟩ ?hw ?hc
  case hw => w_witness2
  intro w s₀ s₁ mg mb G Y fa o pm cd doc dV kV ho hd hcd hD hmg hg args vals as hpre hlay hrd hwl hlo
  have X : (KP PySem.Challenge.pw_dm0058_08 w.params).In s₁.heap := Y
  have T := G.T
  clear ho hd hcd hD Y
  have hfa : fa = 256 := by
    have h1 := mg_law X T.g
    have h2 : mg (S "law") = some (.ref fa) := hmg
    rw [h1] at h2
    cases h2
    rfl
  subst hfa
  clear hmg
  wrow_args hpre hlay hrd hwl hlo
  rename_i ns _ _ hL _ _ _ _ l vs _ hl _ _ _ hI _ hc _
  refine wpAny_mono (walk w s₁ _ mg mb l vs ns T X hg hl hI (by omega) hL) (fun v s' h => ?_) (fun _ _ h => h.elim)
  obtain ⟨hv, hk, hos, hb⟩ := h
  subst hv
  exact ⟨.inl ⟨_, .bool true, [], rfl, fun _ => rfl, .bool true, by kernel_rfl, fun _ => ⟨List.nodup_nil, fun _ h => by cases h⟩⟩, hk, hos, hb⟩
end Mine

open PySem PySem.W PyProof.Rows
namespace Mine
inductive AV where
  | none
  | bool (b : Bool)
  | int (i : Int)
  | str (s : PySem.Str)
  | flt (x : UInt64)
  | ref (a : Addr)
  | ty (n : String)
  | bi (id : String)
  | tup (xs : List AV)
  | mat (xs : List AV)
abbrev Loc := PySem.Str → Option AV
inductive AO where
  | list (xs : List AV)
  | ns (m : Loc)
  | atr (m : Loc)
  | obj (o : Obj)
  | cell (v : Option AV)
  | dict (kvs : List (Int × AV))
  | set (f : Int → Bool) (n : Nat)
abbrev Hp := Addr → Option AO
def Hp.set (hp : Hp) (a : Addr) (o : AO) : Hp := fun b => if b = a then some o else hp b
theorem Hp.set_same (hp : Hp) (a : Addr) (o : AO) : (hp.set a o) a = some o := by simp [Hp.set]
theorem Hp.set_ne (hp : Hp) {a b : Addr} (o : AO) (h : b ≠ a) : (hp.set a o) b = hp b := by simp [Hp.set, h]
theorem Hp.set_set (hp : Hp) (a : Addr) (o o' : AO) : (hp.set a o).set a o' = hp.set a o' := by
  funext b; by_cases h : b = a <;> simp [Hp.set, h]
theorem Hp.set_comm (hp : Hp) {a b : Addr} (o o' : AO) (h : a ≠ b) : (hp.set a o).set b o' = (hp.set b o').set a o := by
  funext c
  simp only [Hp.set]
  by_cases h1 : c = a
  · by_cases h2 : c = b
    · exact absurd (h1.symm.trans h2) h
    · simp [h1, h]
  · by_cases h2 : c = b
    · subst h2; simp [h1]
    · simp [h1, h2]
abbrev matC : Addr := 135
def Imm (o : Obj) : Prop := (o.cls = .type "tuple" ∨ o.cls = .ref matC) ∧ ∃ xs n, o.data = .seq xs n
def ImmLe (h h' : Heap) : Prop := ∀ b o, h.get? b = some o → Imm o → h'.get? b = some o
theorem ImmLe.refl (h : Heap) : ImmLe h h := fun _ _ e _ => e
theorem ImmLe.trans {h₁ h₂ h₃ : Heap} (x : ImmLe h₁ h₂) (y : ImmLe h₂ h₃) : ImmLe h₁ h₃ := fun b o e i => y b o (x b o e i) i
theorem ImmLe.keep {h h' : Heap} (x : ∀ b o, h.get? b = some o → h'.get? b = some o) : ImmLe h h' := fun b o e _ => x b o e
def IsMat (h : Heap) (a : Addr) (items : Array Value) : Prop := ∃ o, h.get? a = some o ∧ o.cls = .ref matC ∧ ∃ n, o.data = .seq items n
mutual
def VR (h : Heap) : AV → Value → Prop
  | .none, v => v = .none
  | .bool b, v => v = .bool b
  | .int i, v => ∃ t, v = .int i t
  | .str s, v => ∃ t, v = .str s t
  | .flt x, v => ∃ t, v = .float x t
  | .ref a, v => v = .ref a
  | .ty n, v => v = .type n
  | .bi n, v => v = .builtin n
  | .tup xs, v => ∃ a vs, v = .ref a ∧ IsTup h a vs ∧ VRs h xs vs.toList
  | .mat xs, v => ∃ a vs, v = .ref a ∧ IsMat h a vs ∧ VRs h xs vs.toList
def VRs (h : Heap) : List AV → List Value → Prop
  | [], vs => vs = []
  | x :: xs, vs => ∃ v r, vs = v :: r ∧ VR h x v ∧ VRs h xs r
end
theorem IsTup.imm {h h' : Heap} (le : ImmLe h h') {a : Addr} {vs : Array Value} (x : IsTup h a vs) : IsTup h' a vs := let ⟨o, ho, hc, n, r⟩ := x; ⟨o, le a o ho ⟨.inl hc, _, n, r⟩, hc, n, r⟩
theorem IsMat.imm {h h' : Heap} (le : ImmLe h h') {a : Addr} {vs : Array Value} (x : IsMat h a vs) : IsMat h' a vs := let ⟨o, ho, hc, n, r⟩ := x; ⟨o, le a o ho ⟨.inr hc, _, n, r⟩, hc, n, r⟩
mutual
theorem VR.mono {h h' : Heap} (le : ImmLe h h') : ∀ {x : AV} {v : Value}, VR h x v → VR h' x v
  | .none, _, e => by simpa only [VR] using e
  | .bool _, _, e => by simpa only [VR] using e
  | .int _, _, e => by simpa only [VR] using e
  | .str _, _, e => by simpa only [VR] using e
  | .flt _, _, e => by simpa only [VR] using e
  | .ref _, _, e => by simpa only [VR] using e
  | .ty _, _, e => by simpa only [VR] using e
  | .bi _, _, e => by simpa only [VR] using e
  | .tup xs, v, e => by
    simp only [VR] at e ⊢
    obtain ⟨a, vs, e1, e2, e3⟩ := e
    exact ⟨a, vs, e1, IsTup.imm le e2, VRs.mono le e3⟩
  | .mat xs, v, e => by
    simp only [VR] at e ⊢
    obtain ⟨a, vs, e1, e2, e3⟩ := e
    exact ⟨a, vs, e1, IsMat.imm le e2, VRs.mono le e3⟩
theorem VRs.mono {h h' : Heap} (le : ImmLe h h') : ∀ {xs : List AV} {vs : List Value}, VRs h xs vs → VRs h' xs vs
  | [], _, e => by simpa only [VRs] using e
  | x :: xs, vs, e => by
    simp only [VRs] at e ⊢
    obtain ⟨v, r, e1, e2, e3⟩ := e
    exact ⟨v, r, e1, VR.mono le e2, VRs.mono le e3⟩
end
theorem VRs.length {h : Heap} : ∀ {xs : List AV} {vs : List Value}, VRs h xs vs → vs.length = xs.length
  | [], _, e => by simp only [VRs] at e; subst e; rfl
  | x :: xs, vs, e => by
    simp only [VRs] at e
    obtain ⟨v, r, rfl, _, e3⟩ := e
    simp [VRs.length e3]
theorem VRs.append {h : Heap} : ∀ {xs ys : List AV} {vs ws : List Value}, VRs h xs vs → VRs h ys ws → VRs h (xs ++ ys) (vs ++ ws)
  | [], _, _, _, e, e' => by simp only [VRs] at e; subst e; exact e'
  | x :: xs, ys, vs, ws, e, e' => by
    simp only [VRs] at e
    obtain ⟨v, r, rfl, e2, e3⟩ := e
    simp only [List.cons_append, VRs]
    exact ⟨v, r ++ ws, rfl, e2, VRs.append e3 e'⟩
theorem VRs.one {h : Heap} {x : AV} {v : Value} (e : VR h x v) : VRs h [x] [v] := by simp only [VRs]; exact ⟨v, [], rfl, e, rfl⟩
theorem VRs.get {h : Heap} : ∀ {xs : List AV} {vs : List Value} {i : Nat} {x : AV}, VRs h xs vs → xs[i]? = some x → ∃ v, vs[i]? = some v ∧ VR h x v
  | [], _, _, _, _, e => by simp at e
  | y :: xs, vs, 0, x, e, hx => by
    simp only [VRs] at e
    obtain ⟨v, r, rfl, e2, _⟩ := e
    simp only [List.getElem?_cons_zero, Option.some.injEq] at hx
    subst hx
    exact ⟨v, rfl, e2⟩
  | y :: xs, vs, i + 1, x, e, hx => by
    simp only [VRs] at e
    obtain ⟨v, r, rfl, _, e3⟩ := e
    simp only [List.getElem?_cons_succ] at hx ⊢
    exact VRs.get e3 hx
theorem VRs.take {h : Heap} : ∀ {xs : List AV} {vs : List Value} (n : Nat), VRs h xs vs → VRs h (xs.take n) (vs.take n)
  | [], _, n, e => by simp only [VRs] at e; subst e; simp [VRs]
  | x :: xs, vs, 0, e => by simp [VRs]
  | x :: xs, vs, n + 1, e => by
    simp only [VRs] at e
    obtain ⟨v, r, rfl, e2, e3⟩ := e
    simp only [List.take_succ_cons, VRs]
    exact ⟨v, _, rfl, e2, VRs.take n e3⟩
theorem VRs.drop {h : Heap} : ∀ {xs : List AV} {vs : List Value} (n : Nat), VRs h xs vs → VRs h (xs.drop n) (vs.drop n)
  | [], _, n, e => by simp only [VRs] at e; subst e; simp [VRs]
  | x :: xs, vs, 0, e => by simpa using e
  | x :: xs, vs, n + 1, e => by
    simp only [VRs] at e
    obtain ⟨v, r, rfl, e2, e3⟩ := e
    simp only [List.drop_succ_cons]
    exact VRs.drop n e3
def LocR (h : Heap) (m : Loc) (mv : PySem.Str → Option Value) : Prop := (∀ x v, m x = some v → ∃ u, mv x = some u ∧ VR h v u) ∧ ∀ x, m x = none → mv x = none
def attrNames : List PySem.Str := ["isjunk", "a", "b", "autojunk", "matching_blocks", "opcodes", "fullbcount", "b2j", "bjunk", "bpopular"]
def IPairs : List DictEntry → List (Int × Value) → Prop
  | [], ps => ps = []
  | e :: es, ps => ∃ kv r, ps = kv :: r ∧ Value.isInt kv.1 e.key = true ∧ e.val = kv.2 ∧ IPairs es r
def IDict (h : Heap) (a : Addr) (ps : List (Int × Value)) : Prop :=
  ∃ o es ep, h.get? a = some o ∧ o.ExactDict ∧ o.data = .dict es ep ∧ (∀ e ∈ es, ∃ k, Value.isInt k e.key = true ∧ e.hash = hashInt k) ∧ IPairs es.toList ps ∧ (ps.map (·.1)).Nodup
def ISet (h : Heap) (a : Addr) (f : Int → Bool) (n : Nat) : Prop :=
  ∃ o es ep t, h.get? a = some o ∧ o.ExactSet ∧ o.data = .set es ep t ∧ (∀ e ∈ es.toList, (∃ k, Value.isInt k e.2 = true ∧ e.1 = hashInt k) ∧ e.2.scannable = true) ∧ (∀ k, f k = true ↔ ∃ e ∈ es.toList, Value.isInt k e.2 = true)
    ∧ es.size < scanBound ∧ t.fits es.size = true ∧ es.size = n
def CellR (h : Heap) : Option AV → Option Value → Prop
  | none, u => u = none
  | some v, u => ∃ x, u = some x ∧ VR h v x
theorem CellR.mono {h h' : Heap} (le : ImmLe h h') : ∀ {v : Option AV} {u : Option Value}, CellR h v u → CellR h' v u
  | none, _, e => e
  | some _, _, ⟨x, e, hv⟩ => ⟨x, e, hv.mono le⟩
def OR (h : Heap) (a : Addr) : AO → Prop
  | .list xs => ∃ vs n, IsL h a vs n ∧ VRs h xs vs.toList
  | .ns m => ∃ mv, h.Ns a mv ∧ LocR h m mv
  | .atr m => ∃ mv, h.Ns1 a mv ∧ LocR h m mv ∧ Within mv attrNames
  | .obj o => h.get? a = some o ∧ ¬ Imm o
  | .cell v => ∃ o u, h.get? a = some o ∧ o.data = .cell u ∧ CellR h v u
  | .dict kvs => ∃ ps, IDict h a ps ∧ ps.map (·.1) = kvs.map (·.1) ∧ VRs h (kvs.map (·.2)) (ps.map (·.2))
  | .set f n => ISet h a f n
structure Rel (B : Shared) (hp : Hp) (s : Shared) : Prop where
  keep : ∀ b o, B.heap.get? b = some o → s.heap.get? b = some o
  objs : ∀ a o, hp a = some o → B.heap.objs.size ≤ a ∧ OR s.heap a o
  os : s.os = B.os
  bare : AllBare s.gens ∧ B.gens.size ≤ s.gens.size
  size : B.heap.objs.size ≤ s.heap.objs.size
theorem LocR.mono {h h' : Heap} (le : ImmLe h h') {m : Loc} {mv : PySem.Str → Option Value} (x : LocR h m mv) : LocR h' m mv := ⟨fun y v e => let ⟨u, a, b⟩ := x.1 y v e; ⟨u, a, b.mono le⟩, x.2⟩
theorem OR.here {h h' : Heap} (le : ImmLe h h') {a : Addr} (e : ∀ o, h.get? a = some o → h'.get? a = some o) : ∀ {o : AO}, OR h a o → OR h' a o
  | .list xs, ⟨vs, n, x, y⟩ => ⟨vs, n, e _ x, y.mono le⟩
  | .ns m, ⟨mv, ⟨o, es, ep, ho, r⟩, y⟩ => ⟨mv, ⟨o, es, ep, e _ ho, r⟩, y.mono le⟩
  | .atr m, ⟨mv, ⟨o, es, ep, ho, r⟩, y, z⟩ => ⟨mv, ⟨o, es, ep, e _ ho, r⟩, y.mono le, z⟩
  | .obj o, ⟨x, y⟩ => ⟨e _ x, y⟩
  | .cell _, ⟨o, u, ho, hd, hc⟩ => ⟨o, u, e _ ho, hd, hc.mono le⟩
  | .dict _, ⟨ps, ⟨o, es, ep, ho, r⟩, hk, hv⟩ => ⟨ps, ⟨o, es, ep, e _ ho, r⟩, hk, hv.mono le⟩
  | .set _ _, ⟨o, es, ep, t, ho, r⟩ => ⟨o, es, ep, t, e _ ho, r⟩
theorem OR.ex {h : Heap} {a : Addr} : ∀ {o : AO}, OR h a o → ∃ ob, h.get? a = some ob
  | .list _, ⟨_, _, x, _⟩ => ⟨_, x⟩
  | .ns _, ⟨_, ⟨o, _, _, ho, _⟩, _⟩ => ⟨o, ho⟩
  | .atr _, ⟨_, ⟨o, _, _, ho, _⟩, _⟩ => ⟨o, ho⟩
  | .obj _, ⟨x, _⟩ => ⟨_, x⟩
  | .cell _, ⟨o, _, ho, _⟩ => ⟨o, ho⟩
  | .dict _, ⟨_, ⟨o, _, _, ho, _⟩, _⟩ => ⟨o, ho⟩
  | .set _ _, ⟨o, _, _, _, ho, _⟩ => ⟨o, ho⟩
theorem Rel.lt {B s : Shared} {hp : Hp} (r : Rel B hp s) {a : Addr} {o : AO} (e : hp a = some o) : a < s.heap.objs.size := let ⟨_, h⟩ := (r.objs a o e).2.ex; Heap.lt_size h
theorem Rel.sub {B s : Shared} {hp hp' : Hp} (r : Rel B hp s) (le : ∀ a o, hp' a = some o → hp a = some o) : Rel B hp' s := ⟨r.keep, fun a o e => r.objs a o (le a o e), r.os, r.bare, r.size⟩
theorem Rel.toks {B s : Shared} {hp : Hp} (r : Rel B hp s) (t : Nat) : Rel B hp { s with toks := t } := ⟨r.keep, r.objs, r.os, r.bare, r.size⟩
theorem Rel.alloc {B s : Shared} {hp : Hp} (r : Rel B hp s) (ob : Obj) (o : AO) (ho : OR (s.heap.push ob) s.heap.objs.size o) : Rel B (hp.set s.heap.objs.size o) { s with heap := s.heap.push ob } where
  keep b o' e := Heap.get?_push_of_some _ (r.keep b o' e)
  objs a o' e := by
    by_cases h : a = s.heap.objs.size
    · subst h
      rw [Hp.set_same] at e
      cases e
      exact ⟨r.size, ho⟩
    · rw [Hp.set_ne _ _ h] at e
      have x := r.objs a o' e
      exact ⟨x.1, x.2.here (ImmLe.keep fun b o'' e => Heap.get?_push_of_some _ e) fun o'' e => Heap.get?_push_of_some _ e⟩
  os := r.os
  bare := r.bare
  size := Nat.le_trans r.size (by simp)
theorem Rel.push {B s : Shared} {hp : Hp} (r : Rel B hp s) (ob : Obj) : Rel B hp { s with heap := s.heap.push ob } where
  keep b o' e := Heap.get?_push_of_some _ (r.keep b o' e)
  objs a o' e := ⟨(r.objs a o' e).1, (r.objs a o' e).2.here (ImmLe.keep fun b o'' e => Heap.get?_push_of_some _ e) fun o'' e => Heap.get?_push_of_some _ e⟩
  os := r.os
  bare := r.bare
  size := Nat.le_trans r.size (by simp)
theorem Rel.fresh {B s : Shared} {hp : Hp} (r : Rel B hp s) : hp s.heap.objs.size = none := by
  cases h : hp s.heap.objs.size with
  | none => rfl
  | some o => exact absurd (r.lt h) (Nat.lt_irrefl _)
theorem OR.notImm {h : Heap} {a : Addr} : ∀ {o : AO}, OR h a o → ∀ ob, h.get? a = some ob → ¬ Imm ob
  | .list _, ⟨_, _, x, _⟩, ob, e => by
    rw [show h.get? a = _ from x] at e; cases e
    intro i
    rcases i with ⟨i | i, _⟩
    · exact absurd (Value.type.inj i) (by decide)
    · cases i
  | .ns _, ⟨_, ⟨o, es, ep, ho, hd, _⟩, _⟩, ob, e => by
    rw [ho] at e; cases e
    intro i; obtain ⟨_, xs, n, hd'⟩ := i
    rw [hd] at hd'; cases hd'
  | .atr _, ⟨_, ⟨o, es, ep, ho, hd, _⟩, _⟩, ob, e => by
    rw [ho] at e; cases e
    intro i; obtain ⟨_, xs, n, hd'⟩ := i
    rw [hd] at hd'; cases hd'
  | .obj _, ⟨x, y⟩, ob, e => by rw [x] at e; cases e; exact y
  | .cell _, ⟨o, u, ho, hd, _⟩, ob, e => by
    rw [ho] at e; cases e
    rintro ⟨_, xs, n, hd'⟩
    rw [hd] at hd'; cases hd'
  | .dict _, ⟨_, ⟨o, es, ep, ho, _, hd, _⟩, _⟩, ob, e => by
    rw [ho] at e; cases e
    rintro ⟨_, xs, n, hd'⟩
    rw [hd] at hd'; cases hd'
  | .set _ _, ⟨o, es, ep, t, ho, _, hd, _⟩, ob, e => by
    rw [ho] at e; cases e
    rintro ⟨_, xs, n, hd'⟩
    rw [hd] at hd'; cases hd'
theorem Rel.turn {B s : Shared} {hp : Hp} (r : Rel B hp s) {a : Addr} {o : AO} (ha : hp a = some o) {h' : Heap} (hs : Heap.SameBut a s.heap h') (o' : AO) (ho : ImmLe s.heap h' → OR h' a o') (t : Nat) :
    Rel B (hp.set a o') { s with heap := h', toks := t } ∧ ImmLe s.heap h' := by
  have le : ImmLe s.heap h' := fun b ob e i => by
    by_cases h : b = a
    · subst h; exact absurd i ((r.objs b o ha).2.notImm ob e)
    · rw [hs.2 b h]; exact e
  refine ⟨⟨fun b ob e => ?_, fun b ob e => ?_, r.os, r.bare, by show _ ≤ h'.objs.size; rw [hs.1]; exact r.size⟩, le⟩
  · have : b ≠ a := by
      rintro rfl
      exact absurd (Heap.lt_size e) (Nat.not_lt.mpr (r.objs b o ha).1)
    show h'.get? b = some ob
    rw [hs.2 b this]; exact r.keep b ob e
  · by_cases h : b = a
    · subst h
      rw [Hp.set_same] at e
      cases e
      exact ⟨(r.objs b o ha).1, ho le⟩
    · rw [Hp.set_ne _ _ h] at e
      have x := r.objs b ob e
      exact ⟨x.1, x.2.here le fun o'' e => by show h'.get? b = some o''; rw [hs.2 b h]; exact e⟩
section
variable {M : Model} {A : Around} {E : Value → Shared → Prop} {B : Shared} {env : Env} {m : Loc} {hp : Hp}
def EV (M : Model) (A : Around) (E : Value → Shared → Prop) (B : Shared) (env : Env) (e : Expr) (m : Loc) (hp : Hp) (Q : AV → Hp → Prop) : Prop :=
  ∀ s, Rel B (hp.set env.locals (.ns m)) s → wpAny M A (eval e env) (fun v s' => ∃ av hp', Rel B (hp'.set env.locals (.ns m)) s' ∧ ImmLe s.heap s'.heap ∧ VR s'.heap av v ∧ Q av hp') E s
def TST (M : Model) (A : Around) (E : Value → Shared → Prop) (B : Shared) (env : Env) (e : Expr) (m : Loc) (hp : Hp) (Q : Bool → Hp → Prop) : Prop :=
  ∀ s, Rel B (hp.set env.locals (.ns m)) s → wpAny M A (isTrue e env (eval e env)) (fun b s' => ∃ hp', Rel B (hp'.set env.locals (.ns m)) s' ∧ ImmLe s.heap s'.heap ∧ Q b hp') E s
inductive AF where
  | next | brk | cont
  | ret (v : AV)
def FR (h : Heap) : AF → Flow → Prop
  | .next, f => f = .next
  | .brk, f => f = .brk
  | .cont, f => f = .cont
  | .ret v, f => ∃ u, f = .ret u ∧ VR h v u
def EX (M : Model) (A : Around) (E : Value → Shared → Prop) (B : Shared) (env : Env) (st : Stmt) (m : Loc) (hp : Hp) (Q : AF → Loc → Hp → Prop) : Prop :=
  ∀ s, Rel B (hp.set env.locals (.ns m)) s → wpAny M A (exec st env) (fun f s' => ∃ af m' hp', Rel B (hp'.set env.locals (.ns m')) s' ∧ ImmLe s.heap s'.heap ∧ FR s'.heap af f ∧ Q af m' hp') E s
def EXs (M : Model) (A : Around) (E : Value → Shared → Prop) (B : Shared) (env : Env) (sts : List Stmt) (m : Loc) (hp : Hp) (Q : AF → Loc → Hp → Prop) : Prop :=
  ∀ s, Rel B (hp.set env.locals (.ns m)) s → wpAny M A (execs sts env) (fun f s' => ∃ af m' hp', Rel B (hp'.set env.locals (.ns m')) s' ∧ ImmLe s.heap s'.heap ∧ FR s'.heap af f ∧ Q af m' hp') E s
theorem EXs_nil {Q : AF → Loc → Hp → Prop} (h : Q .next m hp) : EXs M A E B env [] m hp Q := fun s r => wpAny_execs_nil ⟨.next, m, hp, r, .refl _, rfl, h⟩
theorem EXs_cons {st : Stmt} {rest : List Stmt} {Q : AF → Loc → Hp → Prop}
    (h : EX M A E B env st m hp (fun f m' hp' => match f with | .next => EXs M A E B env rest m' hp' Q | f => Q f m' hp')) : EXs M A E B env (st :: rest) m hp Q := fun s r => by
  refine wpAny_execs_cons (wpAny_mono (h s r) (fun f s' x => ?_) fun _ _ x => x)
  obtain ⟨af, m', hp', r', le, hf, q⟩ := x
  cases af with
  | next => cases hf; exact wpAny_mono (q s' r') (fun f s'' ⟨af, m'', hp'', r'', le', hf, q⟩ => ⟨af, m'', hp'', r'', le.trans le', hf, q⟩) fun _ _ x => x
  | brk => cases hf; exact ⟨.brk, m', hp', r', le, rfl, q⟩
  | cont => cases hf; exact ⟨.cont, m', hp', r', le, rfl, q⟩
  | ret v => obtain ⟨u, rfl, hv⟩ := hf; exact ⟨.ret v, m', hp', r', le, ⟨u, rfl, hv⟩, q⟩
theorem EV_int {i : Int} {k pos} {Q : AV → Hp → Prop} (h : Q (.int i) hp) : EV M A E B env (.Constant (.int i) k pos) m hp Q := fun s r =>
  wpAny_Constant_int ⟨.int i, hp, r.toks _, .refl _, by simp only [VR]; exact ⟨_, rfl⟩, h⟩
theorem EV_strc {x : PySem.Str} {k pos} {Q : AV → Hp → Prop} (h : Q (.str x) hp) : EV M A E B env (.Constant (.str x) k pos) m hp Q := fun s r =>
  wpAny_Constant_str ⟨.str x, hp, r.toks _, .refl _, by simp only [VR]; exact ⟨_, rfl⟩, h⟩
theorem EV_none {k pos} {Q : AV → Hp → Prop} (h : Q .none hp) : EV M A E B env (.Constant .none k pos) m hp Q := fun s r =>
  wpAny_Constant_none ⟨.none, hp, r, .refl _, by simp only [VR], h⟩
theorem EV_boolc {b : Bool} {k pos} {Q : AV → Hp → Prop} (h : Q (.bool b) hp) : EV M A E B env (.Constant (.bool b) k pos) m hp Q := fun s r =>
  wpAny_Constant_bool ⟨.bool b, hp, r, .refl _, by simp only [VR], h⟩
theorem Rel.loc {s : Shared} (r : Rel B (hp.set env.locals (.ns m)) s) : ∃ mv, s.heap.Ns env.locals mv ∧ LocR s.heap m mv := (r.objs _ _ (Hp.set_same ..)).2
theorem EV_local {x : PySem.Str} {pos} {v : AV} {Q : AV → Hp → Prop} (hv : m x = some v) (h : Q v hp) (hk : env.scope.kind = .function := by rfl) (hl : env.kindOf x = some .local := by rfl)
    (hd : (x == ("__debug__" : PySem.Str)) = false := by decide) : EV M A E B env (.Name x pos) m hp Q := fun s r => by
  obtain ⟨mv, hn, hm⟩ := r.loc
  obtain ⟨u, hu, hvu⟩ := hm.1 x v hv
  exact wpAny_Name (wpAny_loadName_local hk hl hn hu ⟨v, hp, r, .refl _, hvu, h⟩) hd
theorem EV.use {e : Expr} {Q : AV → Hp → Prop} (h : EV M A E B env e m hp Q) {s : Shared} (r : Rel B (hp.set env.locals (.ns m)) s) {W : Value → Shared → Prop}
    (k : ∀ v s' av hp', Rel B (hp'.set env.locals (.ns m)) s' → ImmLe s.heap s'.heap → VR s'.heap av v → Q av hp' → W v s') : wpAny M A (eval e env) W E s :=
  wpAny_mono (h s r) (fun v s' ⟨av, hp', r', le, hv, q⟩ => k v s' av hp' r' le hv q) fun _ _ x => x
def OP2 (M : Model) (A : Around) (E : Value → Shared → Prop) (B : Shared) (env : Env) (f : Value → Value → Sem Value) (m : Loc) (a b : AV) (hp : Hp) (Q : AV → Hp → Prop) : Prop :=
  ∀ s u v, Rel B (hp.set env.locals (.ns m)) s → VR s.heap a u → VR s.heap b v → wpAny M A (f u v) (fun w s' => ∃ av hp', Rel B (hp'.set env.locals (.ns m)) s' ∧ ImmLe s.heap s'.heap ∧ VR s'.heap av w ∧ Q av hp') E s
theorem EV_BinOp {l r : Expr} {op : Operator} {pos} {Q : AV → Hp → Prop}
    (h : EV M A E B env l m hp fun a hp₁ => EV M A E B env r m hp₁ fun b hp₂ => OP2 M A E B env (binaryOp op) m a b hp₂ Q) : EV M A E B env (.BinOp l op r pos) m hp Q := fun s rel => by
  refine wpAny_BinOp (h.use rel fun u s₁ a hp₁ r₁ le₁ hu h₁ => h₁.use r₁ fun v s₂ b hp₂ r₂ le₂ hv h₂ => ?_)
  exact wpAny_mono (h₂ s₂ u v r₂ (hu.mono le₂) hv) (fun w s' ⟨av, hp', r', le, hw, q⟩ => ⟨av, hp', r', (le₁.trans le₂).trans le, hw, q⟩) fun _ _ x => x
theorem EV_Compare1 {l r : Expr} {op : CmpOp} {pos} {Q : AV → Hp → Prop}
    (h : EV M A E B env l m hp fun a hp₁ => EV M A E B env r m hp₁ fun b hp₂ => OP2 M A E B env (compareOp op) m a b hp₂ Q) (hm : behindInMarks op r = false := by with_unfolding_all rfl) : EV M A E B env (.Compare l [op] [r] pos) m hp Q := fun s rel => by
  refine wpAny_Compare1 (h.use rel fun u s₁ a hp₁ r₁ le₁ hu h₁ => h₁.use r₁ fun v s₂ b hp₂ r₂ le₂ hv h₂ => ?_) hm
  exact wpAny_mono (h₂ s₂ u v r₂ (hu.mono le₂) hv) (fun w s' ⟨av, hp', r', le, hw, q⟩ => ⟨av, hp', r', (le₁.trans le₂).trans le, hw, q⟩) fun _ _ x => x
def TRU (M : Model) (A : Around) (E : Value → Shared → Prop) (B : Shared) (env : Env) (m : Loc) (a : AV) (hp : Hp) (Q : Bool → Hp → Prop) : Prop :=
  ∀ s u, Rel B (hp.set env.locals (.ns m)) s → VR s.heap a u → wpAny M A (truthy u) (fun b s' => ∃ hp', Rel B (hp'.set env.locals (.ns m)) s' ∧ ImmLe s.heap s'.heap ∧ Q b hp') E s
theorem TST_Compare1 {l r : Expr} {op : CmpOp} {pos} {Q : Bool → Hp → Prop}
    (h : EV M A E B env l m hp fun a hp₁ => EV M A E B env r m hp₁ fun b hp₂ => OP2 M A E B env (compareOp op) m a b hp₂ fun c hp₃ => TRU M A E B env m c hp₃ Q) (hm : behindInMarks op r = false := by with_unfolding_all rfl) :
    TST M A E B env (.Compare l [op] [r] pos) m hp Q := fun s rel => by
  refine wpAny_isTrue_Compare1 (h.use rel fun u s₁ a hp₁ r₁ le₁ hu h₁ => h₁.use r₁ fun v s₂ b hp₂ r₂ le₂ hv h₂ => ?_) hm
  refine wpAny_mono (h₂ s₂ u v r₂ (hu.mono le₂) hv) (fun w s' ⟨av, hp', r', le, hw, q⟩ => ?_) fun _ _ x => x
  exact wpAny_mono (q s' w r' hw) (fun b s'' ⟨hp'', r'', le', q⟩ => ⟨hp'', r'', ((le₁.trans le₂).trans le).trans le', q⟩) fun _ _ x => x
theorem TRU_bool {b : Bool} {Q : Bool → Hp → Prop} (h : Q b hp) : TRU M A E B env m (.bool b) hp Q := fun s u r hu => by
  simp only [VR] at hu; subst hu
  exact wpAny_truthy_bool ⟨hp, r, .refl _, h⟩
theorem EX_If {test : Expr} {body orelse : List Stmt} {pos} {Q : AF → Loc → Hp → Prop}
    (h : TST M A E B env test m hp fun b hp' => if b then EXs M A E B env body m hp' Q else EXs M A E B env orelse m hp' Q) : EX M A E B env (.If test body orelse pos) m hp Q := fun s r => by
  refine wpAny_If (wpAny_mono (h s r) (fun b s' ⟨hp', r', le, q⟩ => ?_) fun _ _ x => x)
  cases b
  · exact wpAny_mono (q s' r') (fun f s'' ⟨af, m'', hp'', r'', le', hf, q⟩ => ⟨af, m'', hp'', r'', le.trans le', hf, q⟩) fun _ _ x => x
  · exact wpAny_mono (q s' r') (fun f s'' ⟨af, m'', hp'', r'', le', hf, q⟩ => ⟨af, m'', hp'', r'', le.trans le', hf, q⟩) fun _ _ x => x
def upd (m : Loc) (x : PySem.Str) (v : AV) : Loc := fun y => if y = x then some v else m y
theorem LocR.upd {h : Heap} {mv : PySem.Str → Option Value} (x : LocR h m mv) {y : PySem.Str} {v : AV} {u : Value} (hv : VR h v u) : LocR h (Mine.upd m y v) (fun z => if z = y then some u else mv z) := ⟨fun z w e => by
  by_cases hz : z = y
  · simp only [Mine.upd, hz, if_true, Option.some.injEq] at e ⊢; subst e; exact ⟨u, rfl, hv⟩
  · simp only [Mine.upd, hz, if_false] at e ⊢; exact x.1 z w e, fun z e => by
  by_cases hz : z = y
  · simp [Mine.upd, hz] at e
  · simp only [Mine.upd, hz, if_false] at e ⊢; exact x.2 z e⟩
theorem store_local {x : PySem.Str} {v : AV} {u : Value} {s : Shared} {W : Unit → Shared → Prop} (r : Rel B (hp.set env.locals (.ns m)) s) (hv : VR s.heap v u)
    (k : ∀ s', Rel B (hp.set env.locals (.ns (upd m x v))) s' → ImmLe s.heap s'.heap → W () s') (hl : env.kindOf x = some .local := by rfl)
    (hp' : (env.scope.kind == .class || (env.scope.kind == .module && env.locals != env.globals)) = false := by rfl) : wpAny M A (storeName env x u) W E s := by
  obtain ⟨mv, hn, hm⟩ := r.loc
  refine wpAny_storeName_local hl hn (fun h' hn' hs => ?_) hp'
  have t := r.turn (Hp.set_same ..) hs (.ns (upd m x v)) (fun le => ⟨_, hn', LocR.upd (hm.mono le) (hv.mono le)⟩) (s.toks + 1)
  rw [Hp.set_set] at t
  exact k _ t.1 t.2
theorem EX_Assign {x : PySem.Str} {value : Expr} {pos pos'} {Q : AF → Loc → Hp → Prop} (h : EV M A E B env value m hp fun v hp' => Q .next (upd m x v) hp')
    (hl : env.kindOf x = some .local := by rfl) (hs : swapsWith value (some (.Name x pos')) pos.line env = pure false := by rfl)
    (hk : (env.scope.kind == .class || (env.scope.kind == .module && env.locals != env.globals)) = false := by rfl) : EX M A E B env (.Assign [.Name x pos'] value pos) m hp Q := fun s r =>
  wpAny_Assign_Name (h.use r fun u s₁ v hp₁ r₁ le₁ hu q => store_local r₁ hu (fun s' r' le => ⟨.next, _, hp₁, r', le₁.trans le, rfl, q⟩) hl hk) hs
theorem EX_AugAssign {x : PySem.Str} {op : Operator} {value : Expr} {pos pos'} {v : AV} {Q : AF → Loc → Hp → Prop} (hv : m x = some v)
    (h : EV M A E B env value m hp fun w hp' => OP2 M A E B env (inplaceOp op) m v w hp' fun r hp'' => Q .next (upd m x r) hp'')
    (hl : env.kindOf x = some .local := by rfl) (hf : env.scope.kind = .function := by rfl)
    (hk : (env.scope.kind == .class || (env.scope.kind == .module && env.locals != env.globals)) = false := by rfl) : EX M A E B env (.AugAssign (.Name x pos') op value pos) m hp Q := fun s r => by
  obtain ⟨mv, hn, hm⟩ := r.loc
  obtain ⟨u, hu, hvu⟩ := hm.1 x v hv
  refine wpAny_AugAssign_Name (wpAny_loadName_local hf hl hn hu (h.use r fun w s₁ b hp₁ r₁ le₁ hw h₁ => ?_))
  refine wpAny_mono (h₁ s₁ u w r₁ (hvu.mono le₁) hw) (fun z s₂ ⟨av, hp₂, r₂, le₂, hz, q⟩ => ?_) fun _ _ x => x
  exact store_local r₂ hz (fun s' r' le => ⟨.next, _, hp₂, r', (le₁.trans le₂).trans le, rfl, q⟩) hl hk
theorem EX_Return {e : Expr} {pos} {Q : AF → Loc → Hp → Prop} (h : EV M A E B env e m hp fun v hp' => Q (.ret v) m hp') : EX M A E B env (.Return (some e) pos) m hp Q := fun s r =>
  wpAny_Return_some (h.use r fun u s₁ v hp₁ r₁ le₁ hu q => ⟨.ret v, m, hp₁, r₁, le₁, ⟨u, rfl, hu⟩, q⟩)
theorem EX_Break {pos} {Q : AF → Loc → Hp → Prop} (h : Q .brk m hp) : EX M A E B env (.Break pos) m hp Q := fun s r => wpAny_Break ⟨.brk, m, hp, r, .refl _, rfl, h⟩
theorem EX_Continue {pos} {Q : AF → Loc → Hp → Prop} (h : Q .cont m hp) : EX M A E B env (.Continue pos) m hp Q := fun s r => wpAny_Continue ⟨.cont, m, hp, r, .refl _, rfl, h⟩
end
end Mine

open PySem PySem.W PyProof.Rows
namespace Mine
section
variable {prog : Program} {w : World} {A : Around} {E : Value → Shared → Prop} {B : Shared} {env : Env} {m : Loc} {hp : Hp}
theorem VR_int {h : Heap} {i : Int} {t : Tok} : VR h (.int i) (.int i t) := by simp only [VR]; exact ⟨t, rfl⟩
theorem VR_bool {h : Heap} {b : Bool} : VR h (.bool b) (.bool b) := by simp only [VR]
theorem VR_none {h : Heap} : VR h .none .none := by simp only [VR]
theorem VR_ref {h : Heap} {a : Addr} : VR h (.ref a) (.ref a) := by simp only [VR]
theorem OP_add {a b : Int} {Q : AV → Hp → Prop} (h : Q (.int (a + b)) hp) : OP2 (model prog w) A E B env (binaryOp .Add) m (.int a) (.int b) hp Q := fun s u v r hu hv => by
  simp only [VR] at hu hv; obtain ⟨t, rfl⟩ := hu; obtain ⟨t', rfl⟩ := hv
  exact PyProof.Rows.add_int ⟨_, hp, r.toks _, .refl _, VR_int, h⟩
theorem OP_sub {a b : Int} {Q : AV → Hp → Prop} (h : Q (.int (a - b)) hp) : OP2 (model prog w) A E B env (binaryOp .Sub) m (.int a) (.int b) hp Q := fun s u v r hu hv => by
  simp only [VR] at hu hv; obtain ⟨t, rfl⟩ := hu; obtain ⟨t', rfl⟩ := hv
  exact PyProof.Rows.sub_int ⟨_, hp, r.toks _, .refl _, VR_int, h⟩
theorem OP_mod {a b : Int} {Q : AV → Hp → Prop} (hb : b ≠ 0) (h : Q (.int (a.fmod b)) hp) : OP2 (model prog w) A E B env (binaryOp .Mod) m (.int a) (.int b) hp Q := fun s u v r hu hv => by
  simp only [VR] at hu hv; obtain ⟨t, rfl⟩ := hu; obtain ⟨t', rfl⟩ := hv
  exact PyProof.Rows.mod_int hb ⟨_, hp, r.toks _, .refl _, VR_int, h⟩
theorem OP_iadd {a b : Int} {Q : AV → Hp → Prop} (h : Q (.int (a + b)) hp) : OP2 (model prog w) A E B env (inplaceOp .Add) m (.int a) (.int b) hp Q := fun s u v r hu hv => by
  simp only [VR] at hu hv; obtain ⟨t, rfl⟩ := hu; obtain ⟨t', rfl⟩ := hv
  exact PyProof.Rows.iadd_int ⟨_, hp, r.toks _, .refl _, VR_int, h⟩
theorem OP_lt {a b : Int} {Q : AV → Hp → Prop} (h : Q (.bool (decide (a < b))) hp) : OP2 (model prog w) A E B env (compareOp .Lt) m (.int a) (.int b) hp Q := fun s u v r hu hv => by
  simp only [VR] at hu hv; obtain ⟨t, rfl⟩ := hu; obtain ⟨t', rfl⟩ := hv
  exact PyProof.Rows.lt_int ⟨_, hp, r, .refl _, VR_bool, h⟩
theorem OP_gt {a b : Int} {Q : AV → Hp → Prop} (h : Q (.bool (decide (b < a))) hp) : OP2 (model prog w) A E B env (compareOp .Gt) m (.int a) (.int b) hp Q := fun s u v r hu hv => by
  simp only [VR] at hu hv; obtain ⟨t, rfl⟩ := hu; obtain ⟨t', rfl⟩ := hv
  exact PyProof.Rows.gt_int ⟨_, hp, r, .refl _, VR_bool, h⟩
theorem OP_le {a b : Int} {Q : AV → Hp → Prop} (h : Q (.bool (decide (a ≤ b))) hp) : OP2 (model prog w) A E B env (compareOp .LtE) m (.int a) (.int b) hp Q := fun s u v r hu hv => by
  simp only [VR] at hu hv; obtain ⟨t, rfl⟩ := hu; obtain ⟨t', rfl⟩ := hv
  exact PyProof.Rows.le_int ⟨_, hp, r, .refl _, VR_bool, h⟩
theorem OP_ge {a b : Int} {Q : AV → Hp → Prop} (h : Q (.bool (decide (a ≥ b))) hp) : OP2 (model prog w) A E B env (compareOp .GtE) m (.int a) (.int b) hp Q := fun s u v r hu hv => by
  simp only [VR] at hu hv; obtain ⟨t, rfl⟩ := hu; obtain ⟨t', rfl⟩ := hv
  exact PyProof.Rows.ge_int ⟨_, hp, r, .refl _, VR_bool, h⟩
theorem OP_eq {a b : Int} {Q : AV → Hp → Prop} (h : Q (.bool (a == b)) hp) : OP2 (model prog w) A E B env (compareOp .Eq) m (.int a) (.int b) hp Q := fun s u v r hu hv => by
  simp only [VR] at hu hv; obtain ⟨t, rfl⟩ := hu; obtain ⟨t', rfl⟩ := hv
  exact PyProof.Rows.eq_int ⟨_, hp, r, .refl _, VR_bool, h⟩
theorem OP_ne {a b : Int} {Q : AV → Hp → Prop} (h : Q (.bool (a != b)) hp) : OP2 (model prog w) A E B env (compareOp .NotEq) m (.int a) (.int b) hp Q := fun s u v r hu hv => by
  simp only [VR] at hu hv; obtain ⟨t, rfl⟩ := hu; obtain ⟨t', rfl⟩ := hv
  exact PyProof.Rows.ne_int ⟨_, hp, r, .refl _, VR_bool, h⟩
def AV.isNone : AV → Bool
  | .none => true
  | _ => false
theorem VR.isNone {h : Heap} : ∀ {a : AV} {u : Value}, VR h a u → (u == Value.none) = a.isNone
  | .none, _, e => by simp only [VR] at e; subst e; rfl
  | .bool _, _, e => by simp only [VR] at e; subst e; rfl
  | .int _, _, e => by simp only [VR] at e; obtain ⟨_, rfl⟩ := e; rfl
  | .str _, _, e => by simp only [VR] at e; obtain ⟨_, rfl⟩ := e; rfl
  | .flt _, _, e => by simp only [VR] at e; obtain ⟨_, rfl⟩ := e; rfl
  | .ref _, _, e => by simp only [VR] at e; subst e; rfl
  | .ty _, _, e => by simp only [VR] at e; subst e; rfl
  | .bi _, _, e => by simp only [VR] at e; subst e; rfl
  | .tup _, _, e => by simp only [VR] at e; obtain ⟨_, _, rfl, _⟩ := e; rfl
  | .mat _, _, e => by simp only [VR] at e; obtain ⟨_, _, rfl, _⟩ := e; rfl
theorem OP_isNone {a : AV} {Q : AV → Hp → Prop} (h : Q (.bool a.isNone) hp) : OP2 (model prog w) A E B env (compareOp .Is) m a .none hp Q := fun s u v r hu hv => by
  simp only [VR] at hv; subst hv
  exact is_none ⟨_, hp, r, .refl _, by rw [hu.isNone]; exact VR_bool, h⟩
theorem TST_value {e : Expr} {Q : Bool → Hp → Prop} (h : EV (model prog w) A E B env e m hp fun v hp' => TRU (model prog w) A E B env m v hp' Q)
    (he : isTrue e env (eval e env) = (do let v ← eval e env; standAt e.pos; holding [v] (truthy v)) := by rfl) : TST (model prog w) A E B env e m hp Q := fun s r => by
  refine wpAny_isTrue_value (h.use r fun u s₁ v hp₁ r₁ le₁ hu q => ?_) he
  exact wpAny_mono (q s₁ u r₁ hu) (fun b s'' ⟨hp'', r'', le', q⟩ => ⟨hp'', r'', le₁.trans le', q⟩) fun _ _ x => x
theorem TST_Not {x : Expr} {pos} {Q : Bool → Hp → Prop} (h : TST (model prog w) A E B env x m hp fun b hp' => Q (!b) hp') : TST (model prog w) A E B env (.UnaryOp .Not x pos) m hp Q := fun s r =>
  wpAny_isTrue_Not (h s r)
def ALLT (M : Model) (A : Around) (E : Value → Shared → Prop) (B : Shared) (env : Env) (op : BoolOp) (es : List Expr) (m : Loc) (hp : Hp) (Q : Bool → Hp → Prop) : Prop :=
  ∀ s, Rel B (hp.set env.locals (.ns m)) s → wpAny M A (allTrue op es env) (fun b s' => ∃ hp', Rel B (hp'.set env.locals (.ns m)) s' ∧ ImmLe s.heap s'.heap ∧ Q b hp') E s
theorem TST_BoolOp {op : BoolOp} {es : List Expr} {pos} {Q : Bool → Hp → Prop} (h : ALLT (model prog w) A E B env op es m hp Q) : TST (model prog w) A E B env (.BoolOp op es pos) m hp Q := fun s r => wpAny_isTrue_BoolOp (h s r)
theorem ALLT_And_nil {Q : Bool → Hp → Prop} (h : Q true hp) : ALLT (model prog w) A E B env .And [] m hp Q := fun s r => wpAny_allTrue_And_nil ⟨hp, r, .refl _, h⟩
theorem ALLT_Or_nil {Q : Bool → Hp → Prop} (h : Q false hp) : ALLT (model prog w) A E B env .Or [] m hp Q := fun s r => wpAny_allTrue_Or_nil ⟨hp, r, .refl _, h⟩
theorem ALLT_And_cons {x : Expr} {rest : List Expr} {Q : Bool → Hp → Prop} (h : TST (model prog w) A E B env x m hp fun b hp' => if b then ALLT (model prog w) A E B env .And rest m hp' Q else Q false hp') :
    ALLT (model prog w) A E B env .And (x :: rest) m hp Q := fun s r => by
  refine wpAny_allTrue_And_cons (wpAny_mono (h s r) (fun b s' ⟨hp', r', le, q⟩ => ?_) fun _ _ x => x)
  cases b
  · exact ⟨hp', r', le, q⟩
  · exact wpAny_mono (q s' r') (fun b s'' ⟨hp'', r'', le', q⟩ => ⟨hp'', r'', le.trans le', q⟩) fun _ _ x => x
theorem ALLT_Or_cons {x : Expr} {rest : List Expr} {Q : Bool → Hp → Prop} (h : TST (model prog w) A E B env x m hp fun b hp' => if b then Q true hp' else ALLT (model prog w) A E B env .Or rest m hp' Q) :
    ALLT (model prog w) A E B env .Or (x :: rest) m hp Q := fun s r => by
  refine wpAny_allTrue_Or_cons (wpAny_mono (h s r) (fun b s' ⟨hp', r', le, q⟩ => ?_) fun _ _ x => x)
  cases b
  · exact wpAny_mono (q s' r') (fun b s'' ⟨hp'', r'', le', q⟩ => ⟨hp'', r'', le.trans le', q⟩) fun _ _ x => x
  · exact ⟨hp', r', le, q⟩
theorem Rel.at {s : Shared} (r : Rel B (hp.set env.locals (.ns m)) s) {a : Addr} {o : AO} (ha : hp a = some o) (hL : a ≠ env.locals) : OR s.heap a o := (r.objs a o (by rw [Hp.set_ne _ _ hL]; exact ha)).2
end
end Mine

open PySem PySem.W PyProof.Rows
namespace Mine
section
variable {prog : Program} {w : World} {A : Around} {E : Value → Shared → Prop} {B : Shared} {env : Env} {m : Loc} {hp : Hp}
def EVS (M : Model) (A : Around) (E : Value → Shared → Prop) (B : Shared) (env : Env) (es : List Expr) (m : Loc) (hp : Hp) (Q : List AV → Hp → Prop) : Prop :=
  ∀ (pos : Pos) s, Rel B (hp.set env.locals (.ns m)) s → wpAny M A (spliced (backTo pos (starEach es env))) (fun vs s' => ∃ avs hp', Rel B (hp'.set env.locals (.ns m)) s' ∧ ImmLe s.heap s'.heap ∧ VRs s'.heap avs vs ∧ Q avs hp') E s
theorem EVS_nil {Q : List AV → Hp → Prop} (h : Q [] hp) : EVS (model prog w) A E B env [] m hp Q := fun _ s r => wpAny_items_nil ⟨[], hp, r, .refl _, by simp only [VRs], h⟩
theorem EVS_cons {e : Expr} {rest : List Expr} {Q : List AV → Hp → Prop} (h : EV (model prog w) A E B env e m hp fun v hp' => EVS (model prog w) A E B env rest m hp' fun vs hp'' => Q (v :: vs) hp'')
    (he : starEach (e :: rest) env = (false, eval e env) :: starEach rest env := by rfl) : EVS (model prog w) A E B env (e :: rest) m hp Q := fun pos s r => by
  refine wpAny_items_cons (h.use r fun u s₁ v hp₁ r₁ le₁ hu q => ?_) he
  refine wpAny_mono (q pos s₁ r₁) (fun vs s₂ ⟨avs, hp₂, r₂, le₂, hv, q⟩ => ?_) fun _ _ x => x
  exact ⟨v :: avs, hp₂, r₂, le₁.trans le₂, by simp only [VRs]; exact ⟨u, vs, rfl, hu.mono le₂, hv⟩, q⟩
theorem Rel.newAt {s : Shared} (r : Rel B (hp.set env.locals (.ns m)) s) (ob : Obj) (o : AO) (ho : OR (s.heap.push ob) s.heap.objs.size o) :
    Rel B ((hp.set s.heap.objs.size o).set env.locals (.ns m)) { s with heap := s.heap.push ob } ∧ hp s.heap.objs.size = none ∧ s.heap.objs.size ≠ env.locals ∧ ImmLe s.heap (s.heap.push ob) := by
  have f := r.fresh
  have hne : s.heap.objs.size ≠ env.locals := fun e => by rw [e, Hp.set_same] at f; cases f
  refine ⟨?_, by rw [Hp.set_ne _ _ hne] at f; exact f, hne, ImmLe.keep fun b o'' e => Heap.get?_push_of_some _ e⟩
  have := r.alloc ob o ho
  rw [Hp.set_comm _ _ _ (Ne.symm hne)] at this
  exact this
theorem EV_Tuple {es : List Expr} {k pos} {Q : AV → Hp → Prop} (h : EVS (model prog w) A E B env es m hp fun vs hp' => vs.length ≤ sizeLine ∧ Q (.tup vs) hp') : EV (model prog w) A E B env (.Tuple es k pos) m hp Q := fun s r => by
  refine wpAny_Tuple (wpAny_mono (h pos s r) (fun vs s₁ ⟨avs, hp₁, r₁, le₁, hv, hlen, q⟩ => ?_) fun _ _ x => x)
  refine ⟨by rw [hv.length]; exact hlen, ?_⟩
  have le : ImmLe s₁.heap (s₁.heap.push { cls := .type "tuple", data := .seq vs.toArray }) := ImmLe.keep fun b o'' e => Heap.get?_push_of_some _ e
  exact ⟨.tup avs, hp₁, r₁.push _, le₁.trans le, by simp only [VR]; exact ⟨_, vs.toArray, rfl, ⟨_, Heap.get?_push_size _ rfl, rfl, _, rfl⟩, by simpa using hv.mono le⟩, q⟩
theorem EV_List {es : List Expr} {pos} {Q : AV → Hp → Prop} (h : EVS (model prog w) A E B env es m hp fun vs hp' => vs.length ≤ sizeLine ∧ ∀ a, hp' a = none → a ≠ env.locals → Q (.ref a) (hp'.set a (.list vs))) :
    EV (model prog w) A E B env (.List es pos) m hp Q := fun s r => by
  refine wpAny_List (wpAny_mono (h pos s r) (fun vs s₁ ⟨avs, hp₁, r₁, le₁, hv, hlen, q⟩ => ?_) fun _ _ x => x)
  refine ⟨by rw [hv.length]; exact hlen, ?_⟩
  have n := r₁.newAt { cls := .type "list", data := .seq vs.toArray } (.list avs) ⟨vs.toArray, 0, IsL.new _ _, by
    have le : ImmLe s₁.heap (s₁.heap.push { cls := .type "list", data := .seq vs.toArray }) := ImmLe.keep fun b o'' e => Heap.get?_push_of_some _ e
    simpa using hv.mono le⟩
  exact ⟨.ref _, _, n.1, le₁.trans n.2.2.2, VR_ref, q _ n.2.1 n.2.2.1⟩
def SUB (M : Model) (A : Around) (E : Value → Shared → Prop) (B : Shared) (env : Env) (value slice : Expr) (m : Loc) (o i : AV) (hp : Hp) (Q : AV → Hp → Prop) : Prop :=
  ∀ s u v, Rel B (hp.set env.locals (.ns m)) s → VR s.heap o u → VR s.heap i v → wpAny M A (subscriptTail value slice u v) (fun w s' => ∃ av hp', Rel B (hp'.set env.locals (.ns m)) s' ∧ ImmLe s.heap s'.heap ∧ VR s'.heap av w ∧ Q av hp') E s
theorem EV_Subscript {value slice : Expr} {pos} {Q : AV → Hp → Prop}
    (h : EV (model prog w) A E B env value m hp fun o hp₁ => EV (model prog w) A E B env slice m hp₁ fun i hp₂ => SUB (model prog w) A E B env value slice m o i hp₂ Q) : EV (model prog w) A E B env (.Subscript value slice pos) m hp Q := fun s rel => by
  refine Subscript_ (h.use rel fun u s₁ a hp₁ r₁ le₁ hu h₁ => h₁.use r₁ fun v s₂ b hp₂ r₂ le₂ hv h₂ => ?_)
  exact wpAny_mono (h₂ s₂ u v r₂ (hu.mono le₂) hv) (fun w s' ⟨av, hp', r', le, hw, q⟩ => ⟨av, hp', r', (le₁.trans le₂).trans le, hw, q⟩) fun _ _ x => x
def Lst (B : Shared) (hp : Hp) (L a : Addr) (xs : List AV) : Prop := (hp a = some (.list xs) ∧ a ≠ L) ∨ ∃ vs, B.heap.IsList a vs ∧ VRs B.heap xs vs.toList
theorem Lst.own {B : Shared} {hp : Hp} {L a : Addr} {xs : List AV} (h : hp a = some (.list xs)) (hL : a ≠ L) : Lst B hp L a xs := .inl ⟨h, hL⟩
theorem Rel.lst {s : Shared} (r : Rel B (hp.set env.locals (.ns m)) s) {a : Addr} {xs : List AV} (h : Lst B hp env.locals a xs) : ∃ vs, s.heap.IsList a vs ∧ VRs s.heap xs vs.toList := by
  rcases h with ⟨ha, hL⟩ | ⟨vs, hl, hv⟩
  · obtain ⟨vs, n, hl, hv⟩ := r.at ha hL
    exact ⟨vs, hl.isList, hv⟩
  · obtain ⟨o, ho, rest⟩ := hl
    exact ⟨vs, ⟨o, r.keep _ _ ho, rest⟩, hv.mono (ImmLe.keep r.keep)⟩
theorem SUB_list {value slice : Expr} {a : Addr} {xs : List AV} {k : Int} {x : AV} {Q : AV → Hp → Prop} (hl : Lst B hp env.locals a xs) (h0 : 0 ≤ k) (hhi : k < 2 ^ 63) (hx : xs[k.toNat]? = some x) (h : Q x hp)
    (hs : ∀ u, subscripted slice false (.ref a) (.int k u) = operate [.ref a, .int k u] (getItem (.ref a) (.int k u)) := by intro _; with_unfolding_all rfl) :
    SUB (model prog w) A E B env value slice m (.ref a) (.int k) hp Q := fun s u v r hu hv => by
  simp only [VR] at hu hv; obtain ⟨t, rfl⟩ := hv; subst hu
  obtain ⟨vs, hl, hvs⟩ := r.lst hl
  obtain ⟨y, hy, hxy⟩ := hvs.get hx
  exact tail_any hl.typeIs slot_list_getitem.lookup (wpAny_getItem_list hl h0 hhi (by simpa using hy) ⟨x, hp, r, .refl _, hxy, h⟩) (hs _)
theorem SUB_listNeg {value slice : Expr} {a : Addr} {xs : List AV} {k : Int} {x : AV} {Q : AV → Hp → Prop} (hl : Lst B hp env.locals a xs) (h0 : k < 0) (hlo : -(2 ^ 63) ≤ k) (h1 : -(xs.length : Int) ≤ k) (hx : xs[(k + xs.length).toNat]? = some x) (h : Q x hp)
    (hs : ∀ u, subscripted slice false (.ref a) (.int k u) = operate [.ref a, .int k u] (getItem (.ref a) (.int k u)) := by intro _; with_unfolding_all rfl) :
    SUB (model prog w) A E B env value slice m (.ref a) (.int k) hp Q := fun s u v r hu hv => by
  simp only [VR] at hu hv; obtain ⟨t, rfl⟩ := hv; subst hu
  obtain ⟨vs, hl, hvs⟩ := r.lst hl
  obtain ⟨y, hy, hxy⟩ := hvs.get hx
  have hlen := hvs.length
  have hsz : (vs.size : Int) = xs.length := by rw [← Array.length_toList, hlen]
  refine tail_any hl.typeIs slot_list_getitem.lookup (wpAny_getItem_list_neg hl h0 ?_ hlo ?_ ⟨x, hp, r, .refl _, hxy, h⟩) (hs _)
  · rw [hsz]; exact h1
  · rw [hsz]; simpa using hy
def optE (M : Model) (A : Around) (E : Value → Shared → Prop) (B : Shared) (env : Env) (e : Option Expr) (m : Loc) (hp : Hp) (Q : AV → Hp → Prop) : Prop := match e with | some e => EV M A E B env e m hp Q | none => Q .none hp
theorem optE.use {e : Option Expr} {Q : AV → Hp → Prop} (h : optE (model prog w) A E B env e m hp Q) {s : Shared} (r : Rel B (hp.set env.locals (.ns m)) s) {W : Value → Shared → Prop}
    (k : ∀ v s' av hp', Rel B (hp'.set env.locals (.ns m)) s' → ImmLe s.heap s'.heap → VR s'.heap av v → Q av hp' → W v s') : wpAny (model prog w) A (evalPart e env) W E s := by
  cases e with
  | none => exact wpAny_pure (k _ _ .none hp r (.refl _) VR_none h)
  | some e => exact EV.use h r k
def partOf : AV → Option (Option Int)
  | .none => some none
  | .int i => some (some i)
  | _ => none
theorem VR.part {h : Heap} {a : AV} {v : Value} {k : Option Int} (hv : VR h a v) (e : partOf a = some k) : IsPart v k := by
  cases a with
  | none => simp only [partOf, Option.some.injEq] at e; simp only [VR] at hv; subst hv; subst e; exact .none
  | int i => simp only [partOf, Option.some.injEq] at e; simp only [VR] at hv; obtain ⟨t, rfl⟩ := hv; subst e; exact .int ..
  | _ => simp [partOf] at e
def pick {α : Type} (xs : List α) (lo hi : Option Int) : List α := (xs.drop (lo.elim 0 (clipAt xs.length))).take (hi.elim xs.length (clipAt xs.length) - lo.elim 0 (clipAt xs.length))
end
end Mine

open PySem PySem.W PyProof.Rows PySem.Calls
namespace Mine
structure Gnd (K : Frag) (B : Shared) : Prop where
  X : K.In B.heap
  top : ∃ mg mb, B.heap.Ns mainGlobals mg ∧ B.heap.Ns builtinsNs mb ∧ ∀ x : PySem.Str, x ≠ "__name__" → mb x = bootBuiltins x
  lim : B.heap.NoLimit
section
variable {prog : Program} {w : World} {A : Around} {E : Value → Shared → Prop} {B : Shared} {env : Env} {m : Loc} {hp : Hp} {K : Frag}
theorem EV_glob (G : Gnd K B) {x : PySem.Str} {pos} {v : Value} {av : AV} {Q : AV → Hp → Prop} (e : nsIn K mainGlobals x = some (some v)) (hv : ∀ h, VR h av v) (h : Q av hp)
    (hk : env.scope.kind = .function := by rfl) (hx : env.kindOf x = some .globalImplicit := by rfl) (hg : env.globals = mainGlobals := by rfl) (hd : (x == ("__debug__" : PySem.Str)) = false := by decide) :
    EV (model prog w) A E B env (.Name x pos) m hp Q := fun s r => by
  obtain ⟨mg, mb, g, b, bb⟩ := G.top
  exact Name_function_global hk hx (loadGlobal_global (hg ▸ g.keeps r.keep) (mg_of G.X g e) ⟨av, hp, r, .refl _, hv _, h⟩) hd
theorem EV_blt (G : Gnd K B) {x : PySem.Str} {pos} {v : Value} {av : AV} {Q : AV → Hp → Prop} (e : nsIn K mainGlobals x = some none) (hb : bootBuiltins x = some v) (hn : x ≠ "__name__") (hv : ∀ h, VR h av v) (h : Q av hp)
    (hk : env.scope.kind = .function := by rfl) (hx : env.kindOf x = some .globalImplicit := by rfl) (hg : env.globals = mainGlobals := by rfl) (hbl : env.builtins = builtinsNs := by rfl) (hd : (x == ("__debug__" : PySem.Str)) = false := by decide) :
    EV (model prog w) A E B env (.Name x pos) m hp Q := fun s r => by
  obtain ⟨mg, mb, g, b, bb⟩ := G.top
  exact Name_function_global hk hx (loadGlobal_builtin (hg ▸ g.keeps r.keep) (mg_none_of G.X g e) (hbl ▸ b.keeps r.keep) ((bb x hn).trans hb) ⟨av, hp, r, .refl _, hv _, h⟩) hd
theorem VR_bi {h : Heap} {n : String} : VR h (.bi n) (.builtin n) := by simp only [VR]
theorem VR_ty {h : Heap} {n : String} : VR h (.ty n) (.type n) := by simp only [VR]
def CL (M : Model) (A : Around) (E : Value → Shared → Prop) (B : Shared) (env : Env) (f : Value) (m : Loc) (avs : List AV) (hp : Hp) (Q : AV → Hp → Prop) : Prop :=
  ∀ s vs, Rel B (hp.set env.locals (.ns m)) s → VRs s.heap avs vs → wpAny M A (call f vs) (fun v s' => ∃ av hp', Rel B (hp'.set env.locals (.ns m)) s' ∧ ImmLe s.heap s'.heap ∧ VR s'.heap av v ∧ Q av hp') E s
theorem EV_CallB {func e : Expr} {rest : List Expr} {pos} {id : String} {Q : AV → Hp → Prop}
    (h : EV (model prog w) A E B env func m hp fun f hp₁ => f = .bi id ∧ EVS (model prog w) A E B env (e :: rest) m hp₁ fun vs hp₂ => CL (model prog w) A E B env (.builtin id) m vs hp₂ Q)
    (hc : eval (.Call func (e :: rest) [] pos) env = (do callWith pos (← eval func env) [] (backTo pos (starEach (e :: rest) env)) (backToKw pos (keywordEach [] env))) := by rfl)
    (he : starEach (e :: rest) env = (false, eval e env) :: starEach rest env := by rfl) (hplain : (backTo pos (starEach rest env)).any (·.1) = false := by rfl) :
    EV (model prog w) A E B env (.Call func (e :: rest) [] pos) m hp Q := fun s r => by
  refine Call_ (h.use r fun u s₁ f hp₁ r₁ le₁ hu ⟨hf, q⟩ => ?_) hc
  subst hf; simp only [VR] at hu; subst hu
  refine callWith_builtin1 (wpAny_mono (q pos s₁ r₁) (fun vs s₂ ⟨avs, hp₂, r₂, le₂, hv, q⟩ => ?_) fun _ _ x => x) he hplain
  exact wpAny_mono (q s₂ vs r₂ hv) (fun v s₃ ⟨av, hp₃, r₃, le₃, hv, q⟩ => ⟨av, hp₃, r₃, (le₁.trans le₂).trans le₃, hv, q⟩) fun _ _ x => x
theorem VRs_one {h : Heap} {a : AV} {vs : List Value} (x : VRs h [a] vs) : ∃ v, vs = [v] ∧ VR h a v := by
  simp only [VRs] at x; obtain ⟨v, r, rfl, h1, rfl⟩ := x; exact ⟨v, rfl, h1⟩
theorem VRs_two {h : Heap} {a b : AV} {vs : List Value} (x : VRs h [a, b] vs) : ∃ v u, vs = [v, u] ∧ VR h a v ∧ VR h b u := by
  simp only [VRs] at x; obtain ⟨v, r, rfl, h1, u, r', rfl, h2, rfl⟩ := x; exact ⟨v, u, rfl, h1, h2⟩
theorem CL_len {a : Addr} {xs : List AV} {Q : AV → Hp → Prop} (hl : Lst B hp env.locals a xs) (hsz : xs.length ≤ sizeLine) (h : Q (.int xs.length) hp) : CL (model prog w) A E B env (.builtin "len") m [.ref a] hp Q := fun s vs r hv => by
  obtain ⟨v, rfl, h1⟩ := VRs_one hv
  simp only [VR] at h1; subst h1
  obtain ⟨us, hl, hu⟩ := r.lst hl
  have e : us.size = xs.length := by rw [← Array.length_toList]; exact hu.length
  exact len_list hl (by rw [e]; have := sizeLine_eq; omega) ⟨_, hp, r.toks _, .refl _, by rw [e]; exact VR_int, h⟩
theorem EV_CallF {func e : Expr} {rest : List Expr} {pos} {f : Addr} {o : Obj} {fd : FuncData} {Q : AV → Hp → Prop} (G : Gnd K B) (ho : K.lookup f = some o) (hd : o.data = .func fd)
    (h : EV (model prog w) A E B env func m hp fun v hp₁ => v = .ref f ∧ EVS (model prog w) A E B env (e :: rest) m hp₁ fun vs hp₂ => CL (model prog w) A E B env (.ref f) m vs hp₂ Q)
    (hc : eval (.Call func (e :: rest) [] pos) env = (do callWith pos (← eval func env) [] (backTo pos (starEach (e :: rest) env)) (backToKw pos (keywordEach [] env))) := by rfl)
    (he : starEach (e :: rest) env = (false, eval e env) :: starEach rest env := by rfl) :
    EV (model prog w) A E B env (.Call func (e :: rest) [] pos) m hp Q := fun s r => by
  refine Call_ (h.use r fun u s₁ v hp₁ r₁ le₁ hu ⟨hf, q⟩ => ?_) hc
  subst hf; simp only [VR] at hu; subst hu
  refine callWith_def hd (wpAny_mono (q pos s₁ r₁) (fun vs s₂ ⟨avs, hp₂, r₂, le₂, hv, q⟩ => ?_) fun _ _ x => x) he
  exact ⟨r₂.keep _ _ (G.X _ _ ho), wpAny_mono (q s₂ vs r₂ hv) (fun v s₃ ⟨av, hp₃, r₃, le₃, hv, q⟩ => ⟨av, hp₃, r₃, (le₁.trans le₂).trans le₃, hv, q⟩) fun _ _ x => x⟩
def locOf : List (PySem.Str × AV) → Loc
  | [] => fun _ => none
  | (x, v) :: r => fun y => if y = x then some v else locOf r y
theorem locR_of {h : Heap} : ∀ {bs : List (PySem.Str × AV)} {us : List (PySem.Str × Value)}, us.map (·.1) = bs.map (·.1) → VRs h (bs.map (·.2)) (us.map (·.2)) → LocR h (locOf bs) (fun x => us.lookup x)
  | [], us, e, hv => by
    refine ⟨fun x v hx => by simp [locOf] at hx, fun x _ => ?_⟩
    cases us with
    | nil => rfl
    | cons _ _ => simp at e
  | (y, v) :: bs, us, e, hv => by
    cases us with
    | nil => simp at e
    | cons u us =>
      obtain ⟨z, u⟩ := u
      simp only [List.map_cons, List.cons.injEq] at e
      simp only [List.map_cons, VRs, List.cons.injEq] at hv
      obtain ⟨_, _, ⟨rfl, rfl⟩, h1, h2⟩ := hv
      obtain ⟨rfl, e2⟩ := e
      refine ⟨fun x x' hx => ?_, fun x hx => ?_⟩
      · simp only [locOf] at hx
        by_cases hz : x = z
        · subst hz
          simp only [if_true, Option.some.injEq] at hx
          subst hx
          exact ⟨u, by simp [List.lookup], h1⟩
        · simp only [hz, if_false] at hx
          obtain ⟨u', hu', hv'⟩ := (locR_of e2 h2).1 x x' hx
          exact ⟨u', by simp only [List.lookup]; rw [beq_eq_false_iff_ne.mpr hz]; exact hu', hv'⟩
      · simp only [locOf] at hx
        by_cases hz : x = z
        · simp [hz] at hx
        · simp only [hz, if_false] at hx
          have := (locR_of e2 h2).2 x hx
          simp only [List.lookup]; rw [beq_eq_false_iff_ne.mpr hz]; exact this
def retOf : AF → AV
  | .ret v => v
  | _ => .none
theorem retOf_VR {h : Heap} {fl : Flow} : ∀ {af : AF}, FR h af fl → VR h (retOf af) (match fl with | .ret v => v | _ => .none)
  | .next, e => by cases e; exact VR_none
  | .brk, e => by cases e; exact VR_none
  | .cont, e => by cases e; exact VR_none
  | .ret v, ⟨u, e, hu⟩ => by subst e; exact hu
def CD (M : Model) (A : Around) (E : Value → Shared → Prop) (B : Shared) (env : Env) (f : Value) (m : Loc) (avs : List AV) (hp : Hp) (Q : AV → Hp → Prop) : Prop :=
  ∀ s vs, Rel B (hp.set env.locals (.ns m)) s → VRs s.heap avs vs → codeAny M A (.call f ⟨vs, []⟩)
    (fun r s' => match r with | .ok (.ret v) => ∃ av hp', Rel B (hp'.set env.locals (.ns m)) s' ∧ ImmLe s.heap s'.heap ∧ VR s'.heap av v ∧ Q av hp' | .ok _ => False | .error e => E e s') s
theorem CD.cl {M : Model} {f : Value} {avs : List AV} {Q : AV → Hp → Prop} (h : CD M A E B env f m avs hp Q) : CL M A E B env f m avs hp Q := fun s vs r hv => wpAny_call (h s vs r hv)
theorem CD_def {f : Addr} {o : Obj} {fd : FuncData} {body : List Stmt} {avs : List AV} {bs : List (PySem.Str × AV)} {Q : AV → Hp → Prop} (G : Gnd K B) (ho : K.lookup f = some o) (hd : o.data = .func fd) (hcd : codeIn K fd.code fd.qualname = true)
    (hbody : fd.body = .stmts body) (hroom : A.depth < recursionLimit)
    (hbind : ∀ s vs, VRs s.heap avs vs → (∀ b o, B.heap.get? b = some o → s.heap.get? b = some o) → ∃ us : List (PySem.Str × Value), BindsTo s fd ⟨vs, []⟩ us ∧ us.reverse.map (·.1) = bs.map (·.1) ∧ VRs s.heap (bs.map (·.2)) (us.reverse.map (·.2)))
    (hloc : bs.all (fun x => fd.scope.names.lookup x.1 == some .local) = true) (hcell : ∀ x ∈ fd.scope.names, x.2 ≠ .cell)
    (h : ∀ L, hp L = none → L ≠ env.locals → EXs (model prog w) (A.deeper (callEnv fd L f)) (fun _ _ => False) B (callEnv fd L f) body (locOf bs) (hp.set env.locals (.ns m))
      (fun fl _ hp' => ∃ hp₂ : Hp, (∀ a o, (hp₂.set env.locals (.ns m)) a = some o → hp' a = some o ∧ a ≠ L) ∧ Q (retOf fl) hp₂))
    (hco : fd.scope.isCoroutine = false := by rfl) (hgen : fd.scope.isGenerator = false := by rfl) (hk : fd.scope.kind = .function := by rfl) :
    CD (model prog w) A E B env (.ref f) m avs hp Q := fun s vs r hv => by
  obtain ⟨us, hb, e1, e2⟩ := hbind s vs hv r.keep
  have nm : us.map (·.1) = (bs.map (·.1)).reverse := by rw [← e1, List.map_reverse, List.reverse_reverse]
  refine codeAny_call_def hroom (r.keep _ _ (G.X _ _ ho)) hd (G.lim.keeps r.keep) (codeRec_of (G.X.keeps r.keep) hcd) hbody hb hcell (fun x hx => ?_) (fun h₀ hns hk₀ => ?_) hco hgen hk
  · have : x.1 ∈ bs.map (·.1) := by
      rw [← List.mem_reverse, ← nm]
      exact List.mem_map_of_mem hx
    obtain ⟨y, hy, e⟩ := List.mem_map.mp this
    rw [← e]
    simpa using List.all_eq_true.mp hloc y hy
  · have hne : s.heap.objs.size ≠ env.locals := fun e => by have f := r.fresh; rw [e, Hp.set_same] at f; cases f
    have hfr : hp s.heap.objs.size = none := by have f := r.fresh; rw [Hp.set_ne _ _ hne] at f; exact f
    have le : ImmLe s.heap h₀ := ImmLe.keep hk₀
    have rel : Rel B ((hp.set env.locals (.ns m)).set (callEnv fd s.heap.objs.size f).locals (.ns (locOf bs))) { s with heap := h₀, toks := s.toks + us.length } := by
      refine ⟨fun b o e => hk₀ _ _ (r.keep b o e), fun a o' e => ?_, r.os, r.bare, ?_⟩
      · by_cases ha : a = s.heap.objs.size
        · subst ha
          rw [show (callEnv fd s.heap.objs.size f).locals = s.heap.objs.size from rfl, Hp.set_same] at e
          cases e
          exact ⟨r.size, _, hns, locR_of e1 (e2.mono le)⟩
        · rw [show (callEnv fd s.heap.objs.size f).locals = s.heap.objs.size from rfl, Hp.set_ne _ _ ha] at e
          exact ⟨(r.objs a o' e).1, (r.objs a o' e).2.here le fun o'' e => hk₀ _ _ e⟩
      · exact Nat.le_trans r.size (Nat.le_of_lt hns.lt)
    refine wpAny_mono (h _ hfr hne _ rel) (fun fl s' x => ?_) fun _ _ x => x.elim
    obtain ⟨af, m', hp', r', le', hf, hp₂, hsub, q⟩ := x
    refine ⟨retOf af, hp₂, r'.sub fun a o e => ?_, le.trans le', retOf_VR hf, q⟩
    have := hsub a o e
    rw [show (callEnv fd s.heap.objs.size f).locals = s.heap.objs.size from rfl, Hp.set_ne _ _ this.2]
    exact this.1
theorem VRs_pick {h : Heap} {xs : List AV} {vs : Array Value} (hv : VRs h xs vs.toList) (lo hi : Option Int) : VRs h (pick xs lo hi) (slicePick vs lo hi none).toList := by
  rw [slicePick_plain]
  have e : vs.size = xs.length := by rw [← Array.length_toList]; exact hv.length
  rw [e]
  exact (hv.drop _).take _
theorem EV_Slice {value : Expr} {lower upper : Option Expr} {p pos} {Q : AV → Hp → Prop}
    (h : EV (model prog w) A E B env value m hp fun o hp₁ => optE (model prog w) A E B env lower m hp₁ fun lo hp₂ => optE (model prog w) A E B env upper m hp₂ fun hi hp₃ =>
      ∃ a xs kl ku, o = .ref a ∧ Lst B hp₃ env.locals a xs ∧ xs.length ≤ sizeLine ∧ partOf lo = some kl ∧ partOf hi = some ku ∧ ∀ b, hp₃ b = none → b ≠ env.locals → Q (.ref b) (hp₃.set b (.list (pick xs kl ku))))
    (ht : ∀ o r, letTemporaryGo value o r = pure () := by intro _ _; rfl) :
    EV (model prog w) A E B env (.Subscript value (.Slice lower upper none p) pos) m hp Q := fun s r => by
  refine wpAny_Subscript_list_slice (h.use r fun u s₁ o hp₁ r₁ le₁ hu h₁ => h₁.use r₁ fun vl s₂ lo hp₂ r₂ le₂ hl h₂ => h₂.use r₂ fun vu s₃ hi hp₃ r₃ le₃ hh h₃ => ?_) ht
  obtain ⟨a, xs, kl, ku, rfl, hls, hsz, pl, pu, q⟩ := h₃
  simp only [VR] at hu; subst hu
  obtain ⟨vs, hlst, hvs⟩ := r₃.lst hls
  have e : vs.size = xs.length := by rw [← Array.length_toList]; exact hvs.length
  refine ⟨a, vs, kl, ku, rfl, hlst, by rw [e]; exact hsz, (hl.mono le₃).part pl, hh.part pu, ?_⟩
  have r₄ := r₃.push { cls := .type "slice", data := .fields #[vl, vu, .none] }
  have le₄ : ImmLe s₃.heap (s₃.heap.push { cls := .type "slice", data := .fields #[vl, vu, .none] }) := ImmLe.keep fun b o'' e => Heap.get?_push_of_some _ e
  have n := Rel.newAt r₄ { cls := .type "list", data := .seq (slicePick vs kl ku none) } (.list (pick xs kl ku)) ⟨_, 0, IsL.new _ _, VRs_pick (hvs.mono (le₄.trans (ImmLe.keep fun b o'' e => Heap.get?_push_of_some _ e))) kl ku⟩
  have hs : (s₃.heap.push { cls := .type "slice", data := .fields #[vl, vu, .none] }).objs.size = s₃.heap.objs.size + 1 := by simp
  simp only [hs] at n
  exact ⟨.ref _, _, n.1, ((le₁.trans le₂).trans le₃).trans (le₄.trans n.2.2.2), VR_ref, q _ n.2.1 n.2.2.1⟩
theorem listMeth {name : PySem.Str} {id : String} {pl : Sem Bool} {s : Shared} {a : Addr} {xs : List AV} {Q : Value × List Value → Shared → Prop} (slot : Slot "list" name id) (hty : typeOf (.builtin id) = pure (.type "method_descriptor"))
    (r : Rel B (hp.set env.locals (.ns m)) s) (ha : hp a = some (.list xs)) (hL : a ≠ env.locals) (h : Q (.builtin id, [.ref a]) s) : wpAny (model prog w) A (getMethod (.ref a) name pl) Q E s := by
  obtain ⟨vs, n, hl, _⟩ := r.at ha hL
  exact getMethod_builtin hl.isList.typeIs PySem.F.plainAttrs_list slot hty (fun b e => by cases e; exact ⟨_, hl, rfl⟩) h
theorem EV_append {o e : Expr} {apos pos} {pl : Sem Bool} {Q : AV → Hp → Prop}
    (h : EV (model prog w) A E B env o m hp fun l hp₁ => ∃ a xs₁, l = .ref a ∧ hp₁ a = some (.list xs₁) ∧ a ≠ env.locals ∧ EVS (model prog w) A E B env [e] m hp₁ fun vs hp₂ => ∃ xs v, vs = [v] ∧ hp₂ a = some (.list xs) ∧ xs.length ≤ sizeLine ∧ Q .none (hp₂.set a (.list (xs ++ [v]))))
    (hc : eval (.Call (.Attribute o (PySem.Str.ofString "append") apos) [e] [] pos) env = (do
      let ov ← eval o env
      standAt apos.atName
      let (f, first) ← holding [ov] (getMethod ov (PySem.Str.ofString "append") pl)
      callWith pos f first (backTo pos (starEach [e] env)) []) := by rfl)
    (he : starEach [e] env = [(false, eval e env)] := by rfl) :
    EV (model prog w) A E B env (.Call (.Attribute o (PySem.Str.ofString "append") apos) [e] [] pos) m hp Q := fun s r => by
  refine MethodCall_ (pl := pl) (h.use r fun u s₁ l hp₁ r₁ le₁ hu x => ?_) hc
  obtain ⟨a, xs₁, rfl, ha, hL, q⟩ := x
  simp only [VR] at hu; subst hu
  refine listMeth slot_list_append type_list_append r₁ ha hL ?_
  refine callWith_method1 (wpAny_mono (q pos s₁ r₁) (fun vs s₂ ⟨avs, hp₂, r₂, le₂, hv, xs, v, e1, ha₂, hsz, q⟩ => ?_) fun _ _ x => x) he
  subst e1
  obtain ⟨y, rfl, hy⟩ := VRs_one hv
  obtain ⟨us, n, hl, hus⟩ := r₂.at ha₂ hL
  have e2 : us.size = xs.length := by rw [← Array.length_toList]; exact hus.length
  refine wpAny_list_append_plain (items := us) ⟨n, hl⟩ (fun h' hpl hs => ?_) (by rw [e2]; exact hsz)
  obtain ⟨n', hl'⟩ := hpl
  have t := r₂.turn (a := a) (by rw [Hp.set_ne _ _ hL]; exact ha₂) hs (.list (xs ++ [v])) (fun le => ⟨us.push y, n', hl', by rw [Array.toList_push]; exact (hus.mono le).append (VRs.one (hy.mono le))⟩) s₂.toks
  rw [Hp.set_comm _ _ _ (Ne.symm hL)] at t
  exact ⟨.none, _, t.1, (le₁.trans le₂).trans t.2, VR_none, q⟩
theorem EX_Expr {e : Expr} {pos} {Q : AF → Loc → Hp → Prop} (h : EV (model prog w) A E B env e m hp fun v hp' => (∀ a, v ≠ .ref a) ∧ (∀ xs, v ≠ .tup xs) ∧ (∀ xs, v ≠ .mat xs) ∧ Q .next m hp') (hi : interactive env = false := by rfl)
    (hs : swapsWith e none pos.line env = pure false := by rfl) : EX (model prog w) A E B env (.Expr e pos) m hp Q := fun s r => by
  refine wpAny_Expr (h.use r fun u s₁ v hp₁ r₁ le₁ hu q => ?_) hi hs
  have post : ∃ af m' hp', Rel B (hp'.set env.locals (.ns m')) s₁ ∧ ImmLe s.heap s₁.heap ∧ FR s₁.heap af .next ∧ Q af m' hp' := ⟨.next, m, hp₁, r₁, le₁, rfl, q.2.2.2⟩
  cases v with
  | ref a => exact absurd rfl (q.1 a)
  | tup xs => exact absurd rfl (q.2.1 xs)
  | mat xs => exact absurd rfl (q.2.2.1 xs)
  | none => simp only [VR] at hu; subst hu; exact post
  | bool b => simp only [VR] at hu; subst hu; exact post
  | int b => simp only [VR] at hu; obtain ⟨t, rfl⟩ := hu; exact post
  | str b => simp only [VR] at hu; obtain ⟨t, rfl⟩ := hu; exact post
  | flt b => simp only [VR] at hu; obtain ⟨t, rfl⟩ := hu; exact post
  | ty b => simp only [VR] at hu; subst hu; exact post
  | bi b => simp only [VR] at hu; subst hu; exact post
end
end Mine

open PySem PySem.W PyProof.Rows PySem.Calls
namespace Mine
section
variable {prog : Program} {w : World} {A : Around} {E : Value → Shared → Prop} {B : Shared} {env : Env} {m : Loc} {hp : Hp} {K : Frag}
theorem Rel.ext {s : Shared} (r : Rel B (hp.set env.locals (.ns m)) s) {h' : Heap} (he : Heap.ExtBut s.heap.objs.size s.heap h') (t : Nat) : Rel B (hp.set env.locals (.ns m)) { s with heap := h', toks := t } ∧ ImmLe s.heap h' := by
  have k : ∀ b o, s.heap.get? b = some o → h'.get? b = some o := fun b o e => he b o (Nat.ne_of_lt (Heap.lt_size e)) e
  refine ⟨⟨fun b o e => k b o (r.keep b o e), fun a o e => ⟨(r.objs a o e).1, (r.objs a o e).2.here (ImmLe.keep k) fun o' e' => k _ _ e'⟩, r.os, r.bare, ?_⟩, ImmLe.keep k⟩
  obtain ⟨h1, h2⟩ := r.objs env.locals _ (Hp.set_same ..)
  obtain ⟨ob, hob⟩ := h2.ex
  exact Nat.le_trans h1 (Nat.le_of_lt (Heap.lt_size (k _ _ hob)))
def ASG (M : Model) (A : Around) (E : Value → Shared → Prop) (B : Shared) (env : Env) (t : Expr) (x : AV) (m : Loc) (hp : Hp) (Q : Loc → Hp → Prop) : Prop :=
  ∀ s v, Rel B (hp.set env.locals (.ns m)) s → VR s.heap x v → wpAny M A (assign t env v) (fun _ s' => ∃ m' hp', Rel B (hp'.set env.locals (.ns m')) s' ∧ ImmLe s.heap s'.heap ∧ Q m' hp') E s
theorem ASG_Name {x : PySem.Str} {pos} {v : AV} {Q : Loc → Hp → Prop} (h : Q (upd m x v) hp) (hl : env.kindOf x = some .local := by rfl)
    (hk : (env.scope.kind == .class || (env.scope.kind == .module && env.locals != env.globals)) = false := by rfl) : ASG (model prog w) A E B env (.Name x pos) v m hp Q := fun s u r hu =>
  PyProof.Rows.assign_Name (store_local r hu (fun s' r' le => ⟨_, hp, r', le, h⟩) hl hk)
def ASGS (M : Model) (A : Around) (E : Value → Shared → Prop) (B : Shared) (env : Env) (ts : List (Value → Sem Unit)) (xs : List AV) (m : Loc) (hp : Hp) (Q : Loc → Hp → Prop) : Prop :=
  ∀ s vs, Rel B (hp.set env.locals (.ns m)) s → VRs s.heap xs vs → wpAny M A (assignInOrder ts vs) (fun _ s' => ∃ m' hp', Rel B (hp'.set env.locals (.ns m')) s' ∧ ImmLe s.heap s'.heap ∧ Q m' hp') E s
theorem ASGS_nil {Q : Loc → Hp → Prop} (h : Q m hp) : ASGS (model prog w) A E B env [] [] m hp Q := fun s vs r _ => assignInOrder_nil ⟨m, hp, r, .refl _, h⟩
theorem ASGS_cons {t : Expr} {ts : List (Value → Sem Unit)} {x : AV} {xs : List AV} {Q : Loc → Hp → Prop} (h : ASG (model prog w) A E B env t x m hp fun m' hp' => ASGS (model prog w) A E B env ts xs m' hp' Q) :
    ASGS (model prog w) A E B env (assign t env :: ts) (x :: xs) m hp Q := fun s vs r hv => by
  simp only [VRs] at hv
  obtain ⟨v, us, rfl, h1, h2⟩ := hv
  refine assignInOrder_cons (wpAny_mono (h s v r h1) (fun _ s₁ ⟨m₁, hp₁, r₁, le₁, q⟩ => ?_) fun _ _ x => x)
  exact wpAny_mono (q s₁ us r₁ (h2.mono le₁)) (fun _ s₂ ⟨m₂, hp₂, r₂, le₂, q⟩ => ⟨m₂, hp₂, r₂, le₁.trans le₂, q⟩) fun _ _ x => x
theorem ASGS_bind {x : PySem.Str} {ts : List (Value → Sem Unit)} {v : AV} {xs : List AV} {Q : Loc → Hp → Prop} (h : ASGS (model prog w) A E B env ts xs (upd m x v) hp Q) (hl : env.kindOf x = some .local := by rfl)
    (hk : (env.scope.kind == .class || (env.scope.kind == .module && env.locals != env.globals)) = false := by rfl) : ASGS (model prog w) A E B env (bindName env x :: ts) (v :: xs) m hp Q := fun s vs r hv => by
  simp only [VRs] at hv
  obtain ⟨v, us, rfl, h1, h2⟩ := hv
  refine assignInOrder_cons (bindName_ (store_local r h1 (fun s₁ r₁ le₁ => ?_) hl hk))
  exact wpAny_mono (h s₁ us r₁ (h2.mono le₁)) (fun _ s₂ ⟨m₂, hp₂, r₂, le₂, q⟩ => ⟨m₂, hp₂, r₂, le₁.trans le₂, q⟩) fun _ _ x => x
theorem ASG_Tuple {elts : List Expr} {k pos} {xs : List AV} {ts : List (Value → Sem Unit)} {Q : Loc → Hp → Prop} (hh : A.handled = none) (hts : (assignEach elts env).map (·.2) = ts) (hn : (assignEach elts env).length = xs.length) (hstar : (assignEach elts env).findIdx? (·.1) = none)
    (h : ASGS (model prog w) A E B env ts xs m hp Q) : ASG (model prog w) A E B env (.Tuple elts k pos) (.tup xs) m hp Q := fun s v r hv => by
  simp only [VR] at hv
  obtain ⟨a, vs, rfl, ht, hvs⟩ := hv
  refine assign_Tuple_tuple hh ht (by rw [hn, ← hvs.length, Array.length_toList]) hstar fun h' he => ?_
  obtain ⟨r', le⟩ := r.ext he s.toks
  rw [hts]
  exact wpAny_mono (h _ _ r' (hvs.mono le)) (fun _ s₂ ⟨m₂, hp₂, r₂, le₂, q⟩ => ⟨m₂, hp₂, r₂, le.trans le₂, q⟩) fun _ _ x => x
theorem EX_Assign2 {t₁ t₂ value : Expr} {pos} {Q : AF → Loc → Hp → Prop}
    (h : EV (model prog w) A E B env value m hp fun v hp₁ => ASG (model prog w) A E B env t₁ v m hp₁ fun m₂ hp₂ => ASG (model prog w) A E B env t₂ v m₂ hp₂ fun m₃ hp₃ => Q .next m₃ hp₃)
    (he : (assignEach [t₁, t₂] env).map (·.2) = [assign t₁ env, assign t₂ env] := by rfl) (hw : swappedStores [t₁, t₂] value env = pure none := by rfl) : EX (model prog w) A E B env (.Assign [t₁, t₂] value pos) m hp Q := fun s r => by
  refine wpAny_Assign_two (h.use r fun u s₁ v hp₁ r₁ le₁ hu q => ?_) he hw
  refine wpAny_mono (q s₁ u r₁ hu) (fun _ s₂ ⟨m₂, hp₂, r₂, le₂, q⟩ => ?_) fun _ _ x => x
  exact wpAny_mono (q s₂ u r₂ (hu.mono le₂)) (fun _ s₃ ⟨m₃, hp₃, r₃, le₃, q⟩ => ⟨.next, m₃, hp₃, r₃, (le₁.trans le₂).trans le₃, rfl, q⟩) fun _ _ x => x
theorem EX_AssignT {elts : List Expr} {k tpos} {value : Expr} {pos} {Q : AF → Loc → Hp → Prop}
    (h : EV (model prog w) A E B env value m hp fun v hp₁ => ASG (model prog w) A E B env (.Tuple elts k tpos) v m hp₁ fun m₂ hp₂ => Q .next m₂ hp₂)
    (hs : swapsWithSole [.Tuple elts k tpos] value pos.line env = pure false := by rfl) (hw : swappedStores [.Tuple elts k tpos] value env = pure none := by rfl) : EX (model prog w) A E B env (.Assign [.Tuple elts k tpos] value pos) m hp Q := fun s r => by
  refine Assign_Tuple (h.use r fun u s₁ v hp₁ r₁ le₁ hu q => ?_) hs hw
  exact wpAny_mono (q s₁ u r₁ hu) (fun _ s₂ ⟨m₂, hp₂, r₂, le₂, q⟩ => ⟨.next, m₂, hp₂, r₂, le₁.trans le₂, rfl, q⟩) fun _ _ x => x
theorem EX_AssignSw {elts : List Expr} {k tpos} {value : Expr} {pos} {names : List PySem.Str} {Q : AF → Loc → Hp → Prop} (hh : A.handled = none)
    (h : EV (model prog w) A E B env value m hp fun v hp₁ => ∃ xs, v = .tup xs ∧ names.length = xs.length ∧ ASGS (model prog w) A E B env (names.reverse.map fun n => bindName env n) xs.reverse m hp₁ fun m₂ hp₂ => Q .next m₂ hp₂)
    (hs : swapsWithSole [.Tuple elts k tpos] value pos.line env = pure false := by rfl) (hw : swappedStores [.Tuple elts k tpos] value env = pure (some names) := by rfl) : EX (model prog w) A E B env (.Assign [.Tuple elts k tpos] value pos) m hp Q := fun s r => by
  refine Assign_Tuple_swapped (names := names) (h.use r fun u s₁ v hp₁ r₁ le₁ hu q => ?_) hs hw
  obtain ⟨xs, rfl, hn, q⟩ := q
  simp only [VR] at hu
  obtain ⟨a, vs, rfl, ht, hvs⟩ := hu
  have e : names.length = vs.size := by rw [hn, ← hvs.length, Array.length_toList]
  rw [e]
  refine unpackItems_tuple hh ht fun h' he => ?_
  obtain ⟨r', le⟩ := r₁.ext he s₁.toks
  have hrev : ∀ {xs : List AV} {vs : List Value}, VRs h' xs vs → VRs h' xs.reverse vs.reverse := by
    intro xs
    induction xs with
    | nil => intro vs x; simp only [VRs] at x; subst x; simp [VRs]
    | cons x xs ih =>
      intro vs hx
      simp only [VRs] at hx
      obtain ⟨v, r, rfl, h1, h2⟩ := hx
      rw [List.reverse_cons, List.reverse_cons]
      exact (ih h2).append (VRs.one h1)
  exact wpAny_mono (q _ _ r' (hrev (hvs.mono le))) (fun _ s₂ ⟨m₂, hp₂, r₂, le₂, q⟩ => ⟨.next, m₂, hp₂, r₂, (le₁.trans le).trans le₂, rfl, q⟩) fun _ _ x => x
end
end Mine

open PySem PySem.W PyProof.Rows PySem.Calls
namespace Mine
def Hp.del (hp : Hp) (a : Addr) : Hp := fun b => if b = a then none else hp b
section
variable {prog : Program} {w : World} {A : Around} {E : Value → Shared → Prop} {B : Shared} {env : Env} {m : Loc} {hp : Hp} {K : Frag}
theorem Rel.drop {s : Shared} (r : Rel B (hp.set env.locals (.ns m)) s) {it : Addr} {ob : Obj} (hit : hp it = some (.obj ob)) (hL : it ≠ env.locals) {h' : Heap} (he : Heap.ExtBut it s.heap h') (t : Nat) :
    Rel B ((hp.del it).set env.locals (.ns m)) { s with heap := h', toks := t } ∧ ImmLe s.heap h' := by
  have hit' : (hp.set env.locals (.ns m)) it = some (.obj ob) := by rw [Hp.set_ne _ _ hL]; exact hit
  have le : ImmLe s.heap h' := fun b o e i => by
    by_cases hb : b = it
    · subst hb; exact absurd i ((r.objs _ _ hit').2.notImm _ e)
    · exact he b o hb e
  have hlow := (r.objs _ _ hit').1
  refine ⟨⟨fun b o e => he b o (fun hb => ?_) (r.keep b o e), fun a o e => ?_, r.os, r.bare, ?_⟩, le⟩
  · subst hb; exact absurd (Heap.lt_size e) (Nat.not_lt.mpr hlow)
  · have ha : a ≠ it := by
      rintro rfl
      rw [Hp.set_ne _ _ hL] at e
      simp [Hp.del] at e
    have e' : (hp.set env.locals (.ns m)) a = some o := by
      by_cases hl : a = env.locals
      · subst hl; rw [Hp.set_same] at e ⊢; exact e
      · rw [Hp.set_ne _ _ hl] at e ⊢; simpa [Hp.del, ha] using e
    exact ⟨(r.objs a o e').1, (r.objs a o e').2.here le fun o' e'' => he _ _ ha e''⟩
  · obtain ⟨h1, h2⟩ := r.objs env.locals _ (Hp.set_same ..)
    obtain ⟨ob', hob⟩ := h2.ex
    exact Nat.le_trans h1 (Nat.le_of_lt (Heap.lt_size (he _ _ (Ne.symm hL) hob)))
theorem letOwned_plain {target : Expr} {it : Addr} {v : Value} {ob : Obj} {n : String} {s : Shared} {W : Unit → Shared → Prop} {E' : Value → Shared → Prop} (h : s.heap.get? it = some ob) (hc : ob.cls = .type n)
    (hn : ["enumerate", "zip", "dict_itemiterator", "dict_reverseitemiterator", "odict_iterator", "itertools.zip_longest", "itertools.pairwise"].contains n = false) (hW : W () s) : wpAny (model prog w) A (letOwnedTupleGo target (.ref it) v) W E' s := by
  have tup : wpAny (model prog w) A (letOwnedTupleGo (.Tuple [] 0 ⟨0, 0, 0, 0⟩) (.ref it) v) W E' s := by
    cases v with
    | ref a =>
      refine wpAny_bind (wpAny_load h ?_)
      obtain ⟨c, d, dt, sl⟩ := ob
      dsimp only at hc
      subst hc
      cases dt with
      | fields vs => dsimp only; rw [hn]; exact wpAny_pure hW
      | _ => exact wpAny_pure hW
    | _ => exact wpAny_pure hW
  cases target with
  | Tuple => exact tup
  | List => exact tup
  | _ => exact wpAny_pure hW
theorem For_core {target : Expr} {body : List Stmt} {it : Addr} {n : Nat} {el : Nat → AV} {st : Nat → Obj → Prop} {I : Nat → Loc → Hp → Prop} {Q : AF → Loc → Hp → Prop} {R : Result → Shared → Prop} (hL : it ≠ env.locals)
    (imm : ∀ i ob, st i ob → ¬ Imm ob)
    (next : ∀ i m₂ hp₂ s ob, i < n → I i m₂ hp₂ → hp₂ it = some (.obj ob) → st i ob → Rel B (hp₂.set env.locals (.ns m₂)) s → ∀ (E' : Value → Shared → Prop) (W : Option Value → Shared → Prop),
      (∀ v h' t' ob', VR s.heap (el i) v → h'.get? it = some ob' → st (i + 1) ob' → Heap.SameBut it s.heap h' → W (some v) { s with heap := h', toks := t' }) → wpAny (model prog w) A (pyNext (.ref it)) W E' s)
    (stop : ∀ m₂ hp₂ s ob, I n m₂ hp₂ → hp₂ it = some (.obj ob) → st n ob → Rel B (hp₂.set env.locals (.ns m₂)) s → ∀ (E' : Value → Shared → Prop) (W : Option Value → Shared → Prop),
      (∀ h' t', Heap.ExtBut it s.heap h' → W none { s with heap := h', toks := t' }) → wpAny (model prog w) A (pyNext (.ref it)) W E' s)
    (hset : ∀ i m₂ hp₂ ob, I i m₂ hp₂ → I i m₂ (hp₂.set it (.obj ob)))
    (turn : ∀ i m₂ hp₂ ob, i < n → I i m₂ hp₂ → hp₂ it = some (.obj ob) → ASG (model prog w) A (fun _ _ => False) B env target (el i) m₂ hp₂ fun m₃ hp₃ => EXs (model prog w) A (fun _ _ => False) B env body m₃ hp₃ fun fl m₄ hp₄ =>
      match fl with | .next | .cont => I (i + 1) m₄ hp₄ ∧ hp₄ it = some (.obj ob) | .brk => Q .next m₄ hp₄ | .ret v => Q (.ret v) m₄ hp₄)
    (fin : ∀ m₂ hp₂, I n m₂ hp₂ → Q .next m₂ (hp₂.del it)) {s₀ : Shared}
    (hR : ∀ fl af m' hp' s', Rel B (hp'.set env.locals (.ns m')) s' → ImmLe s₀.heap s'.heap → FR s'.heap af fl → Q af m' hp' → R (.ok fl) s')
    {s : Shared} {ob : Obj} (h0 : I 0 m hp) (hob : hp it = some (.obj ob)) (hst : st 0 ob) (rel : Rel B (hp.set env.locals (.ns m)) s) (le₀ : ImmLe s₀.heap s.heap)
    (cl : ∀ i ob, st i ob → ∃ n, ob.cls = .type n ∧ ["enumerate", "zip", "dict_itemiterator", "dict_reverseitemiterator", "odict_iterator", "itertools.zip_longest", "itertools.pairwise"].contains n = false) :
    codeAny (model prog w) A (.forLoop target (.ref it) body [] env) R s := by
  refine codeAny_forLoop_any (fun k s' => ∃ i m₂ hp₂ ob, k = n - i ∧ i ≤ n ∧ I i m₂ hp₂ ∧ hp₂ it = some (.obj ob) ∧ st i ob ∧ Rel B (hp₂.set env.locals (.ns m₂)) s' ∧ ImmLe s₀.heap s'.heap) (fun k s' x => ?_) n ⟨0, m, hp, ob, rfl, Nat.zero_le _, h0, hob, hst, rel, le₀⟩
  obtain ⟨i, m₂, hp₂, ob, rfl, hi, hI, hob, hst, r, le⟩ := x
  by_cases hlt : i < n
  · refine next i m₂ hp₂ s' ob hlt hI hob hst r _ _ fun v h' t' ob' hv hg hst' hs => ?_
    have t := r.turn (a := it) (o := .obj ob) (by rw [Hp.set_ne _ _ hL]; exact hob) hs (.obj ob') (fun _ => ⟨hg, imm _ _ hst'⟩) t'
    rw [Hp.set_comm _ _ _ (Ne.symm hL)] at t
    obtain ⟨nm, hcl, hno⟩ := cl _ _ hst'
    refine letOwned_plain hg hcl hno ?_
    have hturn := turn i m₂ (hp₂.set it (.obj ob')) ob' hlt (hset _ _ _ _ hI) (Hp.set_same ..)
    refine wpAny_mono (hturn _ v t.1 (hv.mono t.2)) (fun _ s₃ ⟨m₃, hp₃, r₃, le₃, q⟩ => ?_) fun _ _ x => x.elim
    refine wpAny_mono (q s₃ r₃) (fun fl s₄ ⟨af, m₄, hp₄, r₄, le₄, hf, q⟩ => ?_) fun _ _ x => x.elim
    have leAll : ImmLe s₀.heap s₄.heap := ((le.trans t.2).trans le₃).trans le₄
    cases af with
    | next => cases hf; exact ⟨n - (i + 1), by omega, i + 1, m₄, hp₄, ob', rfl, hlt, q.1, q.2, hst', r₄, leAll⟩
    | cont => cases hf; exact ⟨n - (i + 1), by omega, i + 1, m₄, hp₄, ob', rfl, hlt, q.1, q.2, hst', r₄, leAll⟩
    | brk => cases hf; exact hR _ .next _ _ _ r₄ leAll rfl q
    | ret v => obtain ⟨u, rfl, hu⟩ := hf; exact hR _ (.ret v) _ _ _ r₄ leAll ⟨u, rfl, hu⟩ q
  · have : i = n := by omega
    subst this
    refine stop m₂ hp₂ s' ob hI hob hst r _ _ fun h' t' he => ?_
    obtain ⟨r', le'⟩ := r.drop hob hL he t'
    exact wpAny_execs_nil (hR _ .next _ _ _ r' (le.trans le') rfl (fin _ _ hI))
theorem EX_ForL {target iter : Expr} {body : List Stmt} {pos} {Q : AF → Loc → Hp → Prop} (hh : A.handled = none)
    (h : EV (model prog w) A E B env iter m hp fun o hp₁ => ∃ a xs, o = .ref a ∧ Lst B hp₁ env.locals a xs ∧ ∀ it, hp₁ it = none → it ≠ env.locals → ∃ I : Nat → Loc → Hp → Prop,
      (∀ ob, I 0 m (hp₁.set it (.obj ob))) ∧ (∀ i m₂ hp₂ ob, I i m₂ hp₂ → I i m₂ (hp₂.set it (.obj ob))) ∧ (∀ i m₂ hp₂, I i m₂ hp₂ → Lst B hp₂ env.locals a xs) ∧
      (∀ i x m₂ hp₂ ob, xs[i]? = some x → I i m₂ hp₂ → hp₂ it = some (.obj ob) → ASG (model prog w) A (fun _ _ => False) B env target x m₂ hp₂ fun m₃ hp₃ => EXs (model prog w) A (fun _ _ => False) B env body m₃ hp₃ fun fl m₄ hp₄ =>
        match fl with | .next | .cont => I (i + 1) m₄ hp₄ ∧ hp₄ it = some (.obj ob) | .brk => Q .next m₄ hp₄ | .ret v => Q (.ret v) m₄ hp₄) ∧
      (∀ m₂ hp₂, I xs.length m₂ hp₂ → Q .next m₂ (hp₂.del it)))
    (hs : ∀ x, foldedSetIterable iter env x = pure x := by intro _; rfl) :
    EX (model prog w) A E B env (.For target iter body [] pos) m hp Q := fun s r => by
  refine wpAny_For (h.use r fun u s₁ o hp₁ r₁ le₁ hu x => ?_) hs
  obtain ⟨a, xs, rfl, hl, x⟩ := x
  simp only [VR] at hu; subst hu
  obtain ⟨vs, hlst, hvs⟩ := r₁.lst hl
  refine wpAny_pyIter_list hlst ?_
  have n := r₁.newAt { cls := .type "list_iterator", data := .fields #[.ref a, .int 0 0] } (.obj { cls := .type "list_iterator", data := .fields #[.ref a, .int 0 0] }) ⟨Heap.get?_push_size _ rfl, fun i => by obtain ⟨_, _, _, e⟩ := i; cases e⟩
  obtain ⟨I, h0, hset, hlI, turn, fin⟩ := x _ n.2.1 n.2.2.1
  refine For_core (n := xs.length) (el := fun i => xs.getD i .none) (st := fun i ob => ob.cls = .type "list_iterator" ∧ ob.data = .fields #[.ref a, .int i 0]) (I := I) (Q := Q) (s₀ := s) n.2.2.1 (fun i ob x i' => by obtain ⟨_, _, _, e⟩ := i'; rw [x.2] at e; cases e)
    (fun i m₂ hp₂ s' ob hi hI hob hst r' E' W k => ?_) (fun m₂ hp₂ s' ob hI hob hst r' E' W k => ?_) hset (fun i m₂ hp₂ ob hi hI hob => turn i _ m₂ hp₂ ob (by simp [List.getD, List.getElem?_eq_getElem hi]) hI hob) fin
    (fun fl af m' hp' s' r' le' hf q => ⟨af, m', hp', r', le', hf, q⟩) (h0 _) (Hp.set_same ..) ⟨rfl, rfl⟩ n.1 (le₁.trans n.2.2.2) (fun _ _ x => ⟨_, x.1, rfl⟩)
  · obtain ⟨vs', hl', hvs'⟩ := r'.lst (hlI _ _ _ hI)
    obtain ⟨v, hv, hxv⟩ := hvs'.get (i := i) (x := xs.getD i .none) (by simp [List.getD, List.getElem?_eq_getElem hi])
    have hg : s'.heap.get? s₁.heap.objs.size = some ob := (r'.at hob n.2.2.1).1
    refine wpAny_pyNext_list_item (i := i) ⟨ob, hg, hst.1, hst.2⟩ hl' (by simpa using hv) fun h' hit' hs' => ?_
    obtain ⟨ob', hg', hc', hd'⟩ := hit'
    exact k v h' s'.toks ob' hxv hg' ⟨hc', hd'⟩ hs'
  · obtain ⟨vs', hl', hvs'⟩ := r'.lst (hlI _ _ _ hI)
    have hg : s'.heap.get? s₁.heap.objs.size = some ob := (r'.at hob n.2.2.1).1
    refine wpAny_pyNext_list_end hh (i := xs.length) ⟨ob, hg, hst.1, hst.2⟩ hl' ?_ fun h' he => k h' s'.toks he
    have e : vs'.size = xs.length := by rw [← Array.length_toList]; exact hvs'.length
    exact Array.getElem?_eq_none (by omega)
end
end Mine

open PySem PySem.W PyProof.Rows PySem.Calls
namespace Mine
section
variable {prog : Program} {w : World} {A : Around} {E : Value → Shared → Prop} {B : Shared} {env : Env} {m : Loc} {hp : Hp} {K : Frag}
theorem EV_CallT {func e : Expr} {rest : List Expr} {pos} {T : String} {Q : AV → Hp → Prop}
    (h : EV (model prog w) A E B env func m hp fun f hp₁ => f = .ty T ∧ EVS (model prog w) A E B env (e :: rest) m hp₁ fun vs hp₂ => CL (model prog w) A E B env (.type T) m vs hp₂ Q)
    (hc : eval (.Call func (e :: rest) [] pos) env = (do callWith pos (← eval func env) [] (backTo pos (starEach (e :: rest) env)) (backToKw pos (keywordEach [] env))) := by rfl)
    (he : starEach (e :: rest) env = (false, eval e env) :: starEach rest env := by rfl) (hplain : (backTo pos (starEach rest env)).any (·.1) = false := by rfl) :
    EV (model prog w) A E B env (.Call func (e :: rest) [] pos) m hp Q := fun s r => by
  refine Call_ (h.use r fun u s₁ f hp₁ r₁ le₁ hu ⟨hf, q⟩ => ?_) hc
  subst hf; simp only [VR] at hu; subst hu
  refine PyProof.Rows.callWith_type1 (wpAny_mono (q pos s₁ r₁) (fun vs s₂ ⟨avs, hp₂, r₂, le₂, hv, q⟩ => ?_) fun _ _ x => x) he hplain
  exact wpAny_mono (q s₂ vs r₂ hv) (fun v s₃ ⟨av, hp₃, r₃, le₃, hv, q⟩ => ⟨av, hp₃, r₃, (le₁.trans le₂).trans le₃, hv, q⟩) fun _ _ x => x
def RangeOb (ob : Obj) (a b : Int) : Prop := ∃ t u v, ob = { cls := .type "range", dict := none, data := .fields #[.int a t, .int b u, .int 1 v], slots := #[] }
theorem RangeOb.notImm {ob : Obj} {a b : Int} (h : RangeOb ob a b) : ¬ Imm ob := by obtain ⟨t, u, v, rfl⟩ := h; rintro ⟨_, _, _, e⟩; cases e
theorem CL_range1 {n : Int} {Q : AV → Hp → Prop} (h : ∀ r ob, hp r = none → r ≠ env.locals → RangeOb ob 0 n → Q (.ref r) (hp.set r (.obj ob))) : CL (model prog w) A E B env (.type "range") m [.int n] hp Q := fun s vs r hv => by
  obtain ⟨v, rfl, h1⟩ := VRs_one hv
  simp only [VR] at h1; obtain ⟨t, rfl⟩ := h1
  refine call_range_1 ?_
  have ro : RangeOb { cls := .type "range", dict := none, data := .fields #[.int 0 s.toks, .int n t, .int 1 (s.toks + 1)], slots := #[] } 0 n := ⟨_, _, _, rfl⟩
  have x := r.newAt { cls := .type "range", data := .fields #[.int 0 s.toks, .int n t, .int 1 (s.toks + 1)] } (.obj _) ⟨Heap.get?_push_size _ rfl, ro.notImm⟩
  exact ⟨.ref _, _, x.1.toks _, x.2.2.2, VR_ref, h _ _ x.2.1 x.2.2.1 ro⟩
theorem CL_range2 {a b : Int} {Q : AV → Hp → Prop} (h : ∀ r ob, hp r = none → r ≠ env.locals → RangeOb ob a b → Q (.ref r) (hp.set r (.obj ob))) : CL (model prog w) A E B env (.type "range") m [.int a, .int b] hp Q := fun s vs r hv => by
  obtain ⟨v, u, rfl, h1, h2⟩ := VRs_two hv
  simp only [VR] at h1 h2; obtain ⟨t, rfl⟩ := h1; obtain ⟨t', rfl⟩ := h2
  refine call_range_2 ?_
  have ro : RangeOb { cls := .type "range", dict := none, data := .fields #[.int a t, .int b t', .int 1 s.toks], slots := #[] } a b := ⟨_, _, _, rfl⟩
  have x := r.newAt { cls := .type "range", data := .fields #[.int a t, .int b t', .int 1 s.toks] } (.obj _) ⟨Heap.get?_push_size _ rfl, ro.notImm⟩
  exact ⟨.ref _, _, x.1.toks _, x.2.2.2, VR_ref, h _ _ x.2.1 x.2.2.1 ro⟩
theorem EX_ForR {target iter : Expr} {body : List Stmt} {pos} {Q : AF → Loc → Hp → Prop} (hh : A.handled = none)
    (h : EV (model prog w) A E B env iter m hp fun o hp₁ => ∃ rg ob a b, o = .ref rg ∧ hp₁ rg = some (.obj ob) ∧ rg ≠ env.locals ∧ RangeOb ob a b ∧ -(2 ^ 62) ≤ a ∧ a < 2 ^ 62 ∧ -(2 ^ 62) ≤ b ∧ b < 2 ^ 62 ∧ ∀ it, hp₁ it = none → it ≠ env.locals → ∃ I : Nat → Loc → Hp → Prop,
      (∀ ob, I 0 m (hp₁.set it (.obj ob))) ∧ (∀ i m₂ hp₂ ob, I i m₂ hp₂ → I i m₂ (hp₂.set it (.obj ob))) ∧
      (∀ i m₂ hp₂ ob, i < (b - a).toNat → I i m₂ hp₂ → hp₂ it = some (.obj ob) → ASG (model prog w) A (fun _ _ => False) B env target (.int (a + i)) m₂ hp₂ fun m₃ hp₃ => EXs (model prog w) A (fun _ _ => False) B env body m₃ hp₃ fun fl m₄ hp₄ =>
        match fl with | .next | .cont => I (i + 1) m₄ hp₄ ∧ hp₄ it = some (.obj ob) | .brk => Q .next m₄ hp₄ | .ret v => Q (.ret v) m₄ hp₄) ∧
      (∀ m₂ hp₂, I (b - a).toNat m₂ hp₂ → Q .next m₂ (hp₂.del it)))
    (hs : ∀ x, foldedSetIterable iter env x = pure x := by intro _; rfl) :
    EX (model prog w) A E B env (.For target iter body [] pos) m hp Q := fun s r => by
  refine wpAny_For (h.use r fun u s₁ o hp₁ r₁ le₁ hu x => ?_) hs
  obtain ⟨rg, ob, a, b, rfl, hrg, hrL, ⟨t, u', v', rfl⟩, ha, ha', hb, hb', x⟩ := x
  simp only [VR] at hu; subst hu
  have hro := (r₁.at hrg hrL).1
  refine wpAny_pyIter_range hro (small_one ha ha' hb hb') ?_
  have n := r₁.newAt { cls := .type "range_iterator", data := .fields #[rawInt a, rawInt (Builtin.Range.rangeSize a b 1), rawInt 1] } (.obj { cls := .type "range_iterator", data := .fields #[rawInt a, rawInt (Builtin.Range.rangeSize a b 1), rawInt 1] }) ⟨Heap.get?_push_size _ rfl, fun i => by obtain ⟨_, _, _, e⟩ := i; cases e⟩
  obtain ⟨I, h0, hset, turn, fin⟩ := x _ n.2.1 n.2.2.1
  have hsz : Builtin.Range.rangeSize a b 1 = ((b - a).toNat : Int) := by rw [rangeSize_one]; split <;> omega
  refine For_core (n := (b - a).toNat) (el := fun i => .int (a + i)) (st := fun i ob => ob = { cls := .type "range_iterator", dict := none, data := .fields #[rawInt (a + i), rawInt ((b - a).toNat - i), rawInt 1], slots := #[] }) (I := I) (Q := Q) (s₀ := s) n.2.2.1 (fun i ob x i' => by obtain ⟨_, _, _, e⟩ := i'; rw [x] at e; cases e)
    (fun i m₂ hp₂ s' ob hi hI hob hst r' E' W k => ?_) (fun m₂ hp₂ s' ob hI hob hst r' E' W k => ?_) hset turn fin
    (fun fl af m' hp' s' r' le' hf q => ⟨af, m', hp', r', le', hf, q⟩) (h0 _) (Hp.set_same ..) (by rw [hsz]; simp) n.1 (le₁.trans n.2.2.2) (fun _ _ x => ⟨"range_iterator", congrArg Obj.cls x, rfl⟩)
  · subst hst
    have hg : s'.heap.get? s₁.heap.objs.size = some _ := (r'.at hob n.2.2.1).1
    refine wpAny_pyNext_range_item (x := a + i) (left := (b - a).toNat - i) (step := 1) hg (by omega) fun h' hit' hs' => ?_
    exact k _ h' _ _ VR_int hit' (by
      have e1 : a + (i : Int) + 1 = a + ((i + 1 : Nat) : Int) := by push_cast; omega
      have e2 : (((b - a).toNat : Int) - i - 1) = ((b - a).toNat - ((i + 1 : Nat) : Int)) := by push_cast; omega
      rw [e1, e2]) hs'
  · subst hst
    have hg : s'.heap.get? s₁.heap.objs.size = some _ := (r'.at hob n.2.2.1).1
    exact wpAny_pyNext_range_end hh (x := a + (b - a).toNat) (left := (b - a).toNat - (b - a).toNat) (step := 1) hg (by omega) fun h' he => k h' s'.toks he
end
end Mine

open PySem PySem.W PyProof.Rows PySem.Calls
namespace Mine
mutual
inductive RD (B : Shared) (hp : Hp) (L : Addr) : AV → PyData → Prop
  | none : RD B hp L .none .none
  | bool (b) : RD B hp L (.bool b) (.bool b)
  | int (i) : RD B hp L (.int i) (.int i)
  | str (x) : RD B hp L (.str x) (.str x)
  | tup {xs ds} : RDs B hp L xs ds → RD B hp L (.tup xs) (.tuple ds)
  | list {a xs ds} : Lst B hp L a xs → RDs B hp L xs ds → RD B hp L (.ref a) (.list ds)
inductive RDs (B : Shared) (hp : Hp) (L : Addr) : List AV → List PyData → Prop
  | nil : RDs B hp L [] []
  | cons {x xs d ds} : RD B hp L x d → RDs B hp L xs ds → RDs B hp L (x :: xs) (d :: ds)
end
section
variable {prog : Program} {w : World} {A : Around} {E : Value → Shared → Prop} {B : Shared} {env : Env} {m : Loc} {hp : Hp} {K : Frag}
mutual
theorem RD.reads {s : Shared} (r : Rel B (hp.set env.locals (.ns m)) s) : ∀ {x : AV} {d : PyData} {v : Value}, RD B hp env.locals x d → VR s.heap x v → ∃ as, Reads s.heap v d as
  | _, _, _, .none, hv => by simp only [VR] at hv; subst hv; exact ⟨_, .none⟩
  | _, _, _, .bool b, hv => by simp only [VR] at hv; subst hv; exact ⟨_, .bool b⟩
  | _, _, _, .int i, hv => by simp only [VR] at hv; obtain ⟨t, rfl⟩ := hv; exact ⟨_, .int i t⟩
  | _, _, _, .str x, hv => by simp only [VR] at hv; obtain ⟨t, rfl⟩ := hv; exact ⟨_, .str x t⟩
  | _, _, _, .tup h, hv => by
    simp only [VR] at hv
    obtain ⟨a, vs, rfl, ⟨o, ho, hc, n, hd⟩, hvs⟩ := hv
    obtain ⟨as, ra⟩ := RDs.reads r h hvs
    exact ⟨_, .tuple ho hc hd ra⟩
  | _, _, _, .list hl h, hv => by
    simp only [VR] at hv; subst hv
    obtain ⟨vs, ⟨o, ho, hc, n, hd⟩, hvs⟩ := r.lst hl
    obtain ⟨as, ra⟩ := RDs.reads r h hvs
    exact ⟨_, .list ho hc hd ra⟩
theorem RDs.reads {s : Shared} (r : Rel B (hp.set env.locals (.ns m)) s) : ∀ {xs : List AV} {ds : List PyData} {vs : List Value}, RDs B hp env.locals xs ds → VRs s.heap xs vs → ∃ as, ReadsAll s.heap vs ds as
  | _, _, _, .nil, hv => by simp only [VRs] at hv; subst hv; exact ⟨_, .nil⟩
  | _, _, _, .cons h1 h2, hv => by
    simp only [VRs] at hv
    obtain ⟨v, r', rfl, e1, e2⟩ := hv
    obtain ⟨as, ra⟩ := RD.reads r h1 e1
    obtain ⟨bs, rb⟩ := RDs.reads r h2 e2
    exact ⟨_, .cons ra rb⟩
end
theorem OP_eqD {a b : AV} {da db : PyData} {Q : AV → Hp → Prop} (ha : RD B hp env.locals a da) (hb : RD B hp env.locals b db) (sa : SeqAt.shaped da = true) (sb : SeqAt.shaped db = true) (hu : A.units + 64 < cLine) (h : Q (.bool (PyData.eqv da db)) hp) :
    OP2 (model prog w) A E B env (compareOp .Eq) m a b hp Q := fun s u v r hu' hv => by
  obtain ⟨as, ra⟩ := ha.reads r hu'
  obtain ⟨bs, rb⟩ := hb.reads r hv
  exact SeqAt.compareEq_shaped ra rb sa sb hu ⟨_, hp, r, .refl _, VR_bool, h⟩
theorem OP_neD {a b : AV} {da db : PyData} {Q : AV → Hp → Prop} (ha : RD B hp env.locals a da) (hb : RD B hp env.locals b db) (sa : SeqAt.shaped da = true) (sb : SeqAt.shaped db = true) (hu : A.units + 64 < cLine) (h : Q (.bool (!PyData.eqv da db)) hp) :
    OP2 (model prog w) A E B env (compareOp .NotEq) m a b hp Q := fun s u v r hu' hv => by
  obtain ⟨as, ra⟩ := ha.reads r hu'
  obtain ⟨bs, rb⟩ := hb.reads r hv
  exact SeqAt.compareNe_shaped ra rb sa sb hu ⟨_, hp, r, .refl _, VR_bool, h⟩
theorem EV_IfExp {t b o : Expr} {pos} {Q : AV → Hp → Prop} (h : TST (model prog w) A E B env t m hp fun c hp' => if c then EV (model prog w) A E B env b m hp' Q else EV (model prog w) A E B env o m hp' Q) : EV (model prog w) A E B env (.IfExp t b o pos) m hp Q := fun s r => by
  refine wpAny_IfExp (wpAny_mono (h s r) (fun c s' ⟨hp', r', le, q⟩ => ?_) fun _ _ x => x)
  cases c
  · exact wpAny_mono (q s' r') (fun v s'' ⟨av, hp'', r'', le', hv, q⟩ => ⟨av, hp'', r'', le.trans le', hv, q⟩) fun _ _ x => x
  · exact wpAny_mono (q s' r') (fun v s'' ⟨av, hp'', r'', le', hv, q⟩ => ⟨av, hp'', r'', le.trans le', hv, q⟩) fun _ _ x => x
theorem OP_addL {a b : Addr} {xs ys : List AV} {Q : AV → Hp → Prop} (ha : hp a = some (.list xs)) (hL : a ≠ env.locals) (hb : hp b = some (.list ys)) (hLb : b ≠ env.locals) (hsz : xs.length + ys.length ≤ sizeLine)
    (h : ∀ c, hp c = none → c ≠ env.locals → Q (.ref c) (hp.set c (.list (xs ++ ys)))) : OP2 (model prog w) A E B env (binaryOp .Add) m (.ref a) (.ref b) hp Q := fun s u v r hu hv => by
  simp only [VR] at hu hv; subst hu; subst hv
  obtain ⟨vs, n, hl, hvs⟩ := r.at ha hL
  obtain ⟨us, n', hl', hus⟩ := r.at hb hLb
  have e1 : vs.size = xs.length := by rw [← Array.length_toList]; exact hvs.length
  have e2 : us.size = ys.length := by rw [← Array.length_toList]; exact hus.length
  refine PySem.P.add_list hl hl' ?_ (by omega)
  have le : ImmLe s.heap (s.heap.push { cls := .type "list", data := .seq (vs ++ us) }) := ImmLe.keep fun b o'' e => Heap.get?_push_of_some _ e
  have x := r.newAt { cls := .type "list", data := .seq (vs ++ us) } (.list (xs ++ ys)) ⟨_, 0, IsL.new _ _, by rw [Array.toList_append]; exact (hvs.mono le).append (hus.mono le)⟩
  exact ⟨.ref _, _, x.1, x.2.2.2, VR_ref, h _ x.2.1 x.2.2.1⟩
end
end Mine

open PySem PySem.W PyProof.Rows PySem.Calls
namespace Mine
theorem ofString_inj {a b : String} (h : PySem.Str.ofString a = PySem.Str.ofString b) : a = b := by
  rw [PySem.Str.ofString_eq_byList] at h
  unfold PySem.Str.ofStringByList at h
  have h1 : (a.toList.map Char.toNat).toArray = (b.toList.map Char.toNat).toArray := PySem.Str.mk.inj h
  have h2 : a.toList.map Char.toNat = b.toList.map Char.toNat := by simpa using h1
  apply String.toList_injective
  have inj : ∀ {x y : List Char}, x.map Char.toNat = y.map Char.toNat → x = y := by
    intro x
    induction x with
    | nil => intro y h; cases y with | nil => rfl | cons _ _ => simp at h
    | cons c x ih =>
      intro y h
      cases y with
      | nil => simp at h
      | cons d y =>
        simp only [List.map_cons, List.cons.injEq] at h
        rw [ih h.2]
        congr 1
        exact Char.toNat_inj.mp h.1
  exact inj h2
theorem upd_get (m : Loc) (a b : String) (v : AV) : upd m (PySem.Str.ofString a) v (PySem.Str.ofString b) = if b = a then some v else m (PySem.Str.ofString b) := by
  unfold upd
  by_cases h : b = a
  · simp [h]
  · have : PySem.Str.ofString b ≠ PySem.Str.ofString a := fun e => h (ofString_inj e)
    simp [h, this]
theorem locOf_get (a b : String) (v : AV) (r : List (PySem.Str × AV)) : locOf ((PySem.Str.ofString a, v) :: r) (PySem.Str.ofString b) = if b = a then some v else locOf r (PySem.Str.ofString b) := by
  show (if PySem.Str.ofString b = PySem.Str.ofString a then some v else locOf r (PySem.Str.ofString b)) = _
  by_cases h : b = a
  · simp [h]
  · have : PySem.Str.ofString b ≠ PySem.Str.ofString a := fun e => h (ofString_inj e)
    simp [h, this]
def Hp.Le (hp hp' : Hp) : Prop := ∀ a o, hp a = some o → hp' a = some o
theorem Hp.Le.refl (hp : Hp) : Hp.Le hp hp := fun _ _ e => e
theorem Hp.Le.trans {a b c : Hp} (x : Hp.Le a b) (y : Hp.Le b c) : Hp.Le a c := fun p o e => y p o (x p o e)
theorem Hp.Le.set {hp hp' : Hp} (x : Hp.Le hp hp') {a : Addr} (h : hp a = none) (o : AO) : Hp.Le hp (hp'.set a o) := fun b ob e => by
  have : b ≠ a := fun e' => by rw [e', h] at e; cases e
  rw [Hp.set_ne _ _ this]; exact x b ob e
theorem Hp.Le.del {hp hp' : Hp} (x : Hp.Le hp hp') {a : Addr} (h : hp a = none) : Hp.Le hp (hp'.del a) := fun b ob e => by
  have : b ≠ a := fun e' => by rw [e', h] at e; cases e
  simp only [Hp.del, this, if_false]; exact x b ob e
theorem Hp.Le.none {hp hp' : Hp} (x : Hp.Le hp hp') {a : Addr} (h : hp' a = none) : hp a = none := by
  cases e : hp a with
  | none => rfl
  | some o => rw [x a o e] at h; cases h
theorem Hp.del_ne (hp : Hp) {a b : Addr} (h : b ≠ a) : (hp.del a) b = hp b := by simp [Hp.del, h]
theorem Hp.ne_of {hp : Hp} {a b : Addr} {o : AO} (h : hp a = some o) (h' : hp b = none) : a ≠ b := fun e => by rw [e, h'] at h; cases h
theorem Lst.le {B : Shared} {hp hp' : Hp} {L a : Addr} {xs : List AV} (x : Lst B hp L a xs) (le : Hp.Le hp hp') : Lst B hp' L a xs := by
  rcases x with ⟨h, hL⟩ | h
  · exact .inl ⟨le _ _ h, hL⟩
  · exact .inr h
theorem Lst.call {B : Shared} {hp : Hp} {L L' a : Addr} {xs : List AV} {m : Loc} (x : Lst B hp L a xs) (hL' : hp L' = none) : Lst B (hp.set L (.ns m)) L' a xs := by
  rcases x with ⟨h, hL⟩ | h
  · exact .inl ⟨by rw [Hp.set_ne _ _ hL]; exact h, fun e => by rw [e, hL'] at h; cases h⟩
  · exact .inr h
section
variable {prog : Program} {w : World} {A : Around} {E : Value → Shared → Prop} {B : Shared} {env : Env} {m : Loc} {hp : Hp} {K : Frag}
theorem EV_neg {x : Expr} {pos} {Q : AV → Hp → Prop} (h : EV (model prog w) A E B env x m hp fun v hp' => ∃ i, v = .int i ∧ Q (.int (-i)) hp') : EV (model prog w) A E B env (.UnaryOp .USub x pos) m hp Q := fun s r => by
  refine wpAny_UnaryOp (h.use r fun u s₁ v hp₁ r₁ le₁ hu ⟨i, e, q⟩ => ?_)
  subst e
  simp only [VR] at hu; obtain ⟨t, rfl⟩ := hu
  exact PySem.P.neg_int ⟨_, hp₁, r₁.toks _, le₁, VR_int, q⟩
end
end Mine

open PySem PySem.W PyProof.Rows PySem.Calls
namespace Mine
section
variable {M : Model} {A : Around} {E : Value → Shared → Prop} {B : Shared} {env : Env} {m : Loc} {hp : Hp} {K : Frag}
theorem EV.mono {e : Expr} {Q Q' : AV → Hp → Prop} (h : EV M A E B env e m hp Q) (k : ∀ v hp', Q v hp' → Q' v hp') : EV M A E B env e m hp Q' := fun s r =>
  wpAny_mono (h s r) (fun _ _ ⟨av, hp', r', le, hv, q⟩ => ⟨av, hp', r', le, hv, k _ _ q⟩) fun _ _ x => x
theorem TST.mono {e : Expr} {Q Q' : Bool → Hp → Prop} (h : TST M A E B env e m hp Q) (k : ∀ v hp', Q v hp' → Q' v hp') : TST M A E B env e m hp Q' := fun s r =>
  wpAny_mono (h s r) (fun _ _ ⟨hp', r', le, q⟩ => ⟨hp', r', le, k _ _ q⟩) fun _ _ x => x
theorem EX.mono {st : Stmt} {Q Q' : AF → Loc → Hp → Prop} (h : EX M A E B env st m hp Q) (k : ∀ f m' hp', Q f m' hp' → Q' f m' hp') : EX M A E B env st m hp Q' := fun s r =>
  wpAny_mono (h s r) (fun _ _ ⟨af, m', hp', r', le, hv, q⟩ => ⟨af, m', hp', r', le, hv, k _ _ _ q⟩) fun _ _ x => x
theorem EXs.mono {st : List Stmt} {Q Q' : AF → Loc → Hp → Prop} (h : EXs M A E B env st m hp Q) (k : ∀ f m' hp', Q f m' hp' → Q' f m' hp') : EXs M A E B env st m hp Q' := fun s r =>
  wpAny_mono (h s r) (fun _ _ ⟨af, m', hp', r', le, hv, q⟩ => ⟨af, m', hp', r', le, hv, k _ _ _ q⟩) fun _ _ x => x
theorem EXs_seq {st : Stmt} {rest : List Stmt} {Q : AF → Loc → Hp → Prop} (Mid : Loc → Hp → Prop) (h1 : EX M A E B env st m hp fun f m' hp' => f = .next ∧ Mid m' hp') (h2 : ∀ m' hp', Mid m' hp' → EXs M A E B env rest m' hp' Q) :
    EXs M A E B env (st :: rest) m hp Q := EXs_cons (h1.mono fun f m' hp' ⟨e, x⟩ => by subst e; exact h2 m' hp' x)
end
end Mine
namespace Mine
theorem sz {n : Nat} (h : Nat.ble n 1000 = true) : n ≤ sizeLine := by
  have := sizeLine_eq; have := Nat.le_of_ble_eq_true h; omega
theorem sz' {n : Nat} (h : n ≤ 1000) : n ≤ sizeLine := by
  have := sizeLine_eq; omega
end Mine
open PySem PySem.W PyProof.Rows PySem.Calls
namespace Mine
section
variable {prog : Program} {w : World} {A : Around} {E : Value → Shared → Prop} {B : Shared} {env : Env} {m : Loc} {hp : Hp} {K : Frag}
structure Ins (hp : Hp) (L x dx C : Addr) (ma : Loc) : Prop where
  ob : hp x = some (.obj (instObj C dx))
  at_ : hp dx = some (.atr ma)
  xL : x ≠ L
  dL : dx ≠ L
theorem Ins.le {hp' : Hp} {L x dx C : Addr} {ma : Loc} (I : Ins hp L x dx C ma) (le : Hp.Le hp hp') : Ins hp' L x dx C ma := ⟨le _ _ I.ob, le _ _ I.at_, I.xL, I.dL⟩
theorem Ins.xd {L x dx C : Addr} {ma : Loc} (I : Ins hp L x dx C ma) : x ≠ dx := fun e => by have := I.ob; rw [e, I.at_] at this; cases this
theorem lookIn_ns {o : Obj} {es : Array DictEntry} {ep : Nat} {mv : PySem.Str → Option Value} (hd : o.data = .dict es ep) (hk : StrKeys es) (hm : ∀ name, nsFind es name = mv name) (name : PySem.Str) : lookIn name o = some (mv name) := by
  unfold lookIn
  rw [hd, ← hm name]
  unfold nsFind findBy
  rw [← Array.find?_toList]
  dsimp only
  cases h : es.toList.find? (fun e => e.key.isStr name) with
  | some en => rfl
  | none =>
    have : es.toList.any (·.refKey) = false := by
      rw [List.any_eq_false]
      intro en hen
      obtain ⟨n, t, hn⟩ := hk en (by simpa using hen)
      unfold DictEntry.refKey
      rw [hn]; simp
    simp [this]
theorem Rel.ins {s : Shared} (r : Rel B (hp.set env.locals (.ns m)) s) {x dx C : Addr} {ma : Loc} (I : Ins hp env.locals x dx C ma) :
    ∃ od mv, InstAt s.heap x (instObj C dx) C (some od) ∧ s.heap.Ns1 dx mv ∧ LocR s.heap ma mv ∧ Within mv attrNames ∧ ∀ name, lookIn name od = some (mv name) := by
  obtain ⟨h1, _⟩ := r.at I.ob I.xL
  obtain ⟨mv, hn, hm, hw⟩ := r.at I.at_ I.dL
  have hn' := hn
  obtain ⟨o, es, ep, ho, hd, hk, _, hf⟩ := hn'
  exact ⟨o, mv, ⟨h1, rfl, rfl, ho⟩, hn, hm, hw, lookIn_ns hd hk hf⟩
structure Cls (K : Frag) (C : Addr) : Prop where
  ga : findIn K (.ref C) "__getattribute__" = some (some (.builtin "object.__getattribute__"))
  gk : findIn K (.ref C) "__getattr__" = some none
  hd : (clsIn K C).any (·.hasDict) = true
  sa : findIn K (.ref C) "__setattr__" = some (some (.builtin "object.__setattr__"))
  po : plainOver K C = true
theorem VR_handed {h : Heap} {a : AV} {v : Value} (hv : VR h a v) (hb : ∀ n, a ≠ .bi n) : handedIn v = true := by
  cases a with
  | bi n => exact absurd rfl (hb n)
  | none => simp only [VR] at hv; subst hv; rfl
  | bool _ => simp only [VR] at hv; subst hv; rfl
  | int _ => simp only [VR] at hv; obtain ⟨_, rfl⟩ := hv; rfl
  | str _ => simp only [VR] at hv; obtain ⟨_, rfl⟩ := hv; rfl
  | flt _ => simp only [VR] at hv; obtain ⟨_, rfl⟩ := hv; rfl
  | ref _ => simp only [VR] at hv; subst hv; rfl
  | ty _ => simp only [VR] at hv; subst hv; rfl
  | tup _ => simp only [VR] at hv; obtain ⟨_, _, rfl, _⟩ := hv; rfl
  | mat _ => simp only [VR] at hv; obtain ⟨_, _, rfl, _⟩ := hv; rfl
theorem EV_attr {o : Expr} {name : PySem.Str} {pos} {C : Addr} {Q : AV → Hp → Prop} (G : Gnd K B) (P : Cls K C) (hno : findIn K (.ref C) name = some none)
    (h : EV (model prog w) A E B env o m hp fun v hp₁ => ∃ x dx ma u, v = .ref x ∧ Ins hp₁ env.locals x dx C ma ∧ ma name = some u ∧ (∀ n, u ≠ .bi n) ∧ Q u hp₁)
    (he : eval (.Attribute o name pos) env = (do
      let ov ← eval o env
      standAt pos.atName
      let r ← holding [ov] (getAttr ov name true)
      letTemporaryGo o ov r
      pure r) := by with_unfolding_all rfl) (ht : ∀ ov r, letTemporaryGo o ov r = pure () := by intro _ _; rfl) :
    EV (model prog w) A E B env (.Attribute o name pos) m hp Q := fun s r => by
  rw [he]
  refine wpAny_bind (h.use r fun v s₁ av hp₁ r₁ le₁ hv x => wpAny_bind (wpAny_standAt (wpAny_bind (wpAny_holding ?_))))
  obtain ⟨x, dx, ma, u, rfl, I, hu, hb, q⟩ := x
  simp only [VR] at hv; subst hv
  obtain ⟨od, mv, IA, hn, hm, hw, hl⟩ := r₁.ins I
  obtain ⟨uv, huv, hvr⟩ := hm.1 name u hu
  obtain ⟨cd, hc, hd⟩ := any_some P.hd
  have hf : findObj K C (some od) name = some (.value uv) := by
    unfold findObj
    rw [hc, Option.bind_some, hno]
    simp only [Option.bind_some, W.ownOf, hd, if_true, hl, huv]
  refine get_value (G.X.keeps r₁.keep) IA P.ga hf (VR_handed hvr hb) ?_
  refine wpAny_bind ?_
  rw [ht]
  exact wpAny_pure (wpAny_pure ⟨u, hp₁, r₁.toks _, le₁, hvr, q⟩)
theorem EV_meth {o e : Expr} {name : PySem.Str} {rest : List Expr} {apos pos} {pl : Sem Bool} {C f : Addr} {Q : AV → Hp → Prop} (G : Gnd K B) (P : Cls K C) (hf : findIn K (.ref C) name = some (some (.ref f))) (ht : typeIn K (.ref f) = some (.type "function")) (hk : keepIn K (.ref f) = true)
    (h : EV (model prog w) A E B env o m hp fun v hp₁ => ∃ x dx ma, v = .ref x ∧ Ins hp₁ env.locals x dx C ma ∧ ma name = none ∧ EVS (model prog w) A E B env (e :: rest) m hp₁ fun vs hp₂ => CL (model prog w) A E B env (.ref f) m (.ref x :: vs) hp₂ Q)
    (hc : eval (.Call (.Attribute o name apos) (e :: rest) [] pos) env = (do
      let ov ← eval o env
      standAt apos.atName
      let (f, first) ← holding [ov] (getMethod ov name pl)
      callWith pos f first (backTo pos (starEach (e :: rest) env)) []) := by rfl)
    (he : starEach (e :: rest) env = (false, eval e env) :: starEach rest env := by rfl) (hplain : (backTo pos (starEach rest env)).any (·.1) = false := by rfl) :
    EV (model prog w) A E B env (.Call (.Attribute o name apos) (e :: rest) [] pos) m hp Q := fun s r => by
  refine MethodCall_ (pl := pl) (h.use r fun u s₁ l hp₁ r₁ le₁ hu x => ?_) hc
  obtain ⟨x, dx, ma, rfl, I, hno, q⟩ := x
  simp only [VR] at hu; subst hu
  obtain ⟨od, mv, IA, hn, hm, hw, hl⟩ := r₁.ins I
  refine method_fn (G.X.keeps r₁.keep) IA P.ga P.gk hf ht (by unfold shadowIn; simp [hl, hm.2 name hno]) ?_
  refine callWith_K (K := K) G.X hk (wpAny_mono (q pos s₁ r₁) (fun vs s₂ ⟨avs, hp₂, r₂, le₂, hv, q⟩ => ?_) fun _ _ x => x) he hplain
  refine ⟨G.X.keeps r₂.keep, ?_⟩
  refine wpAny_mono (q s₂ (.ref x :: vs) r₂ (by simp only [VRs]; exact ⟨_, _, rfl, VR_ref, hv⟩)) (fun v s₃ ⟨av, hp₃, r₃, le₃, hv, q⟩ => ⟨av, hp₃, r₃, (le₁.trans le₂).trans le₃, hv, q⟩) fun _ _ x => x
theorem EV_meth0 {o : Expr} {name : PySem.Str} {apos pos} {pl : Sem Bool} {C f : Addr} {Q : AV → Hp → Prop} (G : Gnd K B) (P : Cls K C) (hf : findIn K (.ref C) name = some (some (.ref f))) (ht : typeIn K (.ref f) = some (.type "function")) (hk : keepIn K (.ref f) = true)
    (h : EV (model prog w) A E B env o m hp fun v hp₁ => ∃ x dx ma, v = .ref x ∧ Ins hp₁ env.locals x dx C ma ∧ ma name = none ∧ CL (model prog w) A E B env (.ref f) m [.ref x] hp₁ Q)
    (hc : eval (.Call (.Attribute o name apos) [] [] pos) env = (do
      let ov ← eval o env
      standAt apos.atName
      let (f, first) ← holding [ov] (getMethod ov name pl)
      callWith pos f first (backTo pos (starEach [] env)) []) := by rfl) :
    EV (model prog w) A E B env (.Call (.Attribute o name apos) [] [] pos) m hp Q := fun s r => by
  refine MethodCall_ (pl := pl) (h.use r fun u s₁ l hp₁ r₁ le₁ hu x => ?_) hc
  obtain ⟨x, dx, ma, rfl, I, hno, q⟩ := x
  simp only [VR] at hu; subst hu
  obtain ⟨od, mv, IA, hn, hm, hw, hl⟩ := r₁.ins I
  refine method_fn (G.X.keeps r₁.keep) IA P.ga P.gk hf ht (by unfold shadowIn; simp [hl, hm.2 name hno]) ?_
  refine callWith_K0 (K := K) (G.X.keeps r₁.keep) hk ?_
  refine wpAny_mono (q s₁ [.ref x] r₁ (VRs.one VR_ref)) (fun v s₃ ⟨av, hp₃, r₃, le₃, hv, q⟩ => ⟨av, hp₃, r₃, le₁.trans le₃, hv, q⟩) fun _ _ x => x
theorem ASG_attr {o : Expr} {name : PySem.Str} {pos} {C : Addr} {u : AV} {Q : Loc → Hp → Prop} (G : Gnd K B) (P : Cls K C) (ht : takerIn K C name = some none) (ha : name ∈ attrNames)
    (h : EV (model prog w) A E B env o m hp fun v hp₁ => ∃ x dx ma, v = .ref x ∧ Ins hp₁ env.locals x dx C ma ∧ Q m (hp₁.set dx (.atr (upd ma name u)))) :
    ASG (model prog w) A E B env (.Attribute o name pos) u m hp Q := fun s v r hv => by
  rw [assign_Attribute]
  refine wpAny_bind (wpAny_holding (h.use r fun ov s₁ av hp₁ r₁ le₁ hov x => wpAny_bind (wpAny_standAt (wpAny_bind (wpAny_holding ?_)))))
  obtain ⟨x, dx, ma, rfl, I, q⟩ := x
  simp only [VR] at hov; subst hov
  obtain ⟨od, mv, IA, hn, hm, hw, hl⟩ := r₁.ins I
  have hv₁ := hv.mono le₁
  have X := G.X.keeps r₁.keep
  refine set_plain X IA P.sa (osa_open (s := { s₁ with toks := s₁.toks + 1 }) X IA P.po ht fun b => ?_)
  obtain ⟨cd, hc, hd⟩ := any_some P.hd
  refine wpAny_bind (wpAny_pure (wpAny_bind (wpAny_bind (wpAny_loadPart IA.at_ (wpAny_bind (looks_clsIn X hc _ _ _ _ (fun _ _ e => e) ?_))))))
  rw [hd]
  refine wpAny_pure (a := some dx) (wpAny_bind (wpAny_pure (wpAny_bind (wpAny_nsSet1 (s := { s₁ with toks := s₁.toks + 1 }) hn fun h' hn' hs => ?_))))
  have hw' : Within (fun x => if x = name then some v else mv x) attrNames := fun y hy => by
    by_cases e : y = name
    · rw [e]; exact ha
    · exact hw y (by simpa [e] using hy)
  obtain ⟨oD, esD, epD, hoD, hdD, hcD⟩ := hn'.count hw'
  refine wpAny_bind (wpAny_lookBehind hoD (by rw [hdD]; exact pastItsLine_dict (Nat.le_trans hcD (by decide))) ?_)
  refine wpAny_pure ?_
  have t := r₁.turn (a := dx) (by rw [Hp.set_ne _ _ I.dL]; exact I.at_) hs (.atr (upd ma name u)) (fun le => ⟨_, hn', LocR.upd (hm.mono le) (hv₁.mono le), hw'⟩) (s₁.toks + 1 + 1)
  rw [Hp.set_comm _ _ _ (Ne.symm I.dL)] at t
  exact wpAny_release ⟨m, _, t.1, le₁.trans t.2, q⟩
end
end Mine

open PySem PySem.W PyProof.Rows PySem.Calls
namespace Mine
section
variable {prog : Program} {w : World} {A : Around} {E : Value → Shared → Prop} {B : Shared} {env : Env} {m : Loc} {hp : Hp} {K : Frag}
theorem CL_make {C fI : Addr} {avs : List AV} {Q : AV → Hp → Prop} (G : Gnd K B) (hm : makesIn K C = true) (hi : findIn K (.ref C) "__init__" = some (some (.ref fI))) (hf : typeIn K (.ref fI) = some (.type "function"))
    (h : ∀ x dx vs, hp x = none → hp dx = none → x ≠ dx → x ≠ env.locals → dx ≠ env.locals →
      CD (model prog w) (A.under (.builtin "type.__call__" ⟨.ref C :: vs, []⟩)) E B env (.ref fI) m (.ref x :: avs) ((hp.set dx (.atr fun _ => none)).set x (.obj (instObj C dx))) fun v hp' => v = .none ∧ Q (.ref x) hp') :
    CL (model prog w) A E B env (.ref C) m avs hp Q := fun s vs r hv => by
  refine wpAny_call ?_
  have n1 := r.newAt emptyDict (.atr fun _ => none) ⟨fun _ => none, Heap.Ns1.of_empty (Heap.Ns.new s.heap (.type "dict")), ⟨fun x v e => by simp at e, fun x _ => rfl⟩, fun y hy => absurd rfl hy⟩
  have n2 := Rel.newAt n1.1 (instObj C s.heap.objs.size) (.obj (instObj C s.heap.objs.size)) ⟨Heap.get?_push_size _ rfl, fun i => by obtain ⟨_, xs, n, e⟩ := i; cases e⟩
  have hsz : (s.heap.push emptyDict).objs.size = s.heap.objs.size + 1 := Heap.size_push ..
  simp only [hsz] at n2
  have hx0 : hp (s.heap.objs.size + 1) = none := by
    have := n2.2.1
    rw [Hp.set_ne _ _ (Nat.succ_ne_self _)] at this
    exact this
  have hh := h (s.heap.objs.size + 1) s.heap.objs.size vs hx0 n1.2.1 (Nat.succ_ne_self _) n2.2.2.1 n1.2.2.1
  obtain ⟨heap, g, d, t, os⟩ := s
  refine make_core (makes_of (G.X.keeps r.keep) hm) (looks_findIn (G.X.keeps r.keep) hi) (fun self => bind_fn (G.X.keeps r.keep) self hf) (.inl rfl) ?_
  refine codeAny_mono (hh _ (.ref (heap.objs.size + 1) :: vs) n2.1 (by simp only [VRs]; exact ⟨_, _, rfl, VR_ref, hv.mono (n1.2.2.2.trans n2.2.2.2)⟩)) fun r s' z => ?_
  rcases r with e | (v | _ | _ | _) <;> first | exact z | exact z.elim | skip
  obtain ⟨av, hp', r', le', hv', rfl, q⟩ := z
  simp only [VR] at hv'; subst hv'
  exact ⟨rfl, .ref (heap.objs.size + 1), hp', r', (n1.2.2.2.trans n2.2.2.2).trans le', VR_ref, q⟩
theorem EV_CallK {func e : Expr} {rest : List Expr} {pos} {f : Addr} {Q : AV → Hp → Prop} (G : Gnd K B) (hk : keepIn K (.ref f) = true)
    (h : EV (model prog w) A E B env func m hp fun v hp₁ => v = .ref f ∧ EVS (model prog w) A E B env (e :: rest) m hp₁ fun vs hp₂ => CL (model prog w) A E B env (.ref f) m vs hp₂ Q)
    (hc : eval (.Call func (e :: rest) [] pos) env = (do callWith pos (← eval func env) [] (backTo pos (starEach (e :: rest) env)) (backToKw pos (keywordEach [] env))) := by rfl)
    (he : starEach (e :: rest) env = (false, eval e env) :: starEach rest env := by rfl) (hplain : (backTo pos (starEach rest env)).any (·.1) = false := by rfl) :
    EV (model prog w) A E B env (.Call func (e :: rest) [] pos) m hp Q := fun s r => by
  refine Call_ (h.use r fun u s₁ v hp₁ r₁ le₁ hu ⟨hf, q⟩ => ?_) hc
  subst hf; simp only [VR] at hu; subst hu
  refine callWith_K (K := K) G.X hk (wpAny_mono (q pos s₁ r₁) (fun vs s₂ ⟨avs, hp₂, r₂, le₂, hv, q⟩ => ⟨G.X.keeps r₂.keep, ?_⟩) fun _ _ x => x) he hplain
  exact wpAny_mono (q s₂ vs r₂ hv) (fun v s₃ ⟨av, hp₃, r₃, le₃, hv, q⟩ => ⟨av, hp₃, r₃, (le₁.trans le₂).trans le₃, hv, q⟩) fun _ _ x => x
theorem TRU_none {Q : Bool → Hp → Prop} (h : Q false hp) : TRU (model prog w) A E B env m .none hp Q := fun s u r hu => by
  simp only [VR] at hu; subst hu
  exact PyProof.Rows.truthy_none ⟨hp, r, .refl _, h⟩
theorem Rel.grown {s : Shared} (r : Rel B (hp.set env.locals (.ns m)) s) {h' : Heap} (k : ∀ b o, s.heap.get? b = some o → h'.get? b = some o) (t : Nat) : Rel B (hp.set env.locals (.ns m)) { s with heap := h', toks := t } ∧ ImmLe s.heap h' := by
  refine ⟨⟨fun b o e => k b o (r.keep b o e), fun a o e => ⟨(r.objs a o e).1, (r.objs a o e).2.here (ImmLe.keep k) fun o' e' => k _ _ e'⟩, r.os, r.bare, ?_⟩, ImmLe.keep k⟩
  obtain ⟨h1, h2⟩ := r.objs env.locals _ (Hp.set_same ..)
  obtain ⟨ob, hob⟩ := h2.ex
  exact Nat.le_trans h1 (Nat.le_of_lt (Heap.lt_size (k _ _ hob)))
end
end Mine

open PySem PySem.W PyProof.Rows PySem.Calls
namespace Mine
def RET (L : Addr) (env : Env) (m : Loc) (Q : AV → Hp → Prop) : AF → Loc → Hp → Prop := fun fl _ hp' => ∃ hp₂ : Hp, Hp.Le (hp₂.set env.locals (.ns m)) hp' ∧ hp₂ L = none ∧ Q (retOf fl) hp₂
theorem Ins.call {hp : Hp} {L L' x dx C : Addr} {ma m : Loc} (I : Ins hp L x dx C ma) (h : hp L' = none) : Ins (hp.set L (.ns m)) L' x dx C ma :=
  ⟨by rw [Hp.set_ne _ _ I.xL]; exact I.ob, by rw [Hp.set_ne _ _ I.dL]; exact I.at_, Hp.ne_of I.ob h, Hp.ne_of I.at_ h⟩
theorem Ins.put {hp : Hp} {L x dx C : Addr} {ma ma' : Loc} (I : Ins hp L x dx C ma) : Ins (hp.set dx (.atr ma')) L x dx C ma' :=
  ⟨by rw [Hp.set_ne _ _ I.xd]; exact I.ob, Hp.set_same .., I.xL, I.dL⟩
theorem Lst.put {B : Shared} {hp : Hp} {L a b : Addr} {xs : List AV} {o : AO} (x : Lst B hp L a xs) (h : ∀ ys, hp b ≠ some (.list ys)) : Lst B (hp.set b o) L a xs := by
  rcases x with ⟨e, hL⟩ | e
  · exact .inl ⟨by rw [Hp.set_ne _ _ (fun e' => by subst e'; exact h _ e)]; exact e, hL⟩
  · exact .inr e
section
variable {prog : Program} {w : World} {A : Around} {E : Value → Shared → Prop} {B : Shared} {env : Env} {m : Loc} {hp : Hp} {K : Frag}
theorem CD_fn {f : Addr} {fd : FuncData} {body : List Stmt} {avs : List AV} {bs : List (PySem.Str × AV)} {Q : AV → Hp → Prop} (G : Gnd K B) (ho : K.lookup f = some ⟨.type "function", none, .func fd, #[]⟩) (hcd : codeIn K fd.code fd.qualname = true)
    (hbody : fd.body = .stmts body) (hroom : A.depth < recursionLimit)
    (hbind : ∀ s vs, VRs s.heap avs vs → (∀ b o, B.heap.get? b = some o → s.heap.get? b = some o) → ∃ us : List (PySem.Str × Value), BindsTo s fd ⟨vs, []⟩ us ∧ us.reverse.map (·.1) = bs.map (·.1) ∧ VRs s.heap (bs.map (·.2)) (us.reverse.map (·.2)))
    (hloc : bs.all (fun x => fd.scope.names.lookup x.1 == some .local) = true) (hcell : ∀ x ∈ fd.scope.names, x.2 ≠ .cell)
    (h : ∀ L, hp L = none → L ≠ env.locals → EXs (model prog w) (A.deeper (callEnv fd L f)) (fun _ _ => False) B (callEnv fd L f) body (locOf bs) (hp.set env.locals (.ns m)) (RET L env m Q))
    (hco : fd.scope.isCoroutine = false := by rfl) (hgen : fd.scope.isGenerator = false := by rfl) (hk : fd.scope.kind = .function := by rfl) :
    CD (model prog w) A E B env (.ref f) m avs hp Q :=
  CD_def G ho rfl hcd hbody hroom hbind hloc hcell (fun L hL hLe => (h L hL hLe).mono fun fl m' hp' ⟨hp₂, le, hn, q⟩ => ⟨hp₂, fun a o e => ⟨le a o e, fun e' => by
    subst e'; rw [Hp.set_ne _ _ hLe, hn] at e; cases e⟩, q⟩) hco hgen hk
theorem EX_AssignA {o value : Expr} {name : PySem.Str} {pos' pos} {Q : AF → Loc → Hp → Prop}
    (h : EV (model prog w) A E B env value m hp fun v hp₁ => ASG (model prog w) A E B env (.Attribute o name pos') v m hp₁ fun m₂ hp₂ => Q .next m₂ hp₂)
    (hs : swapsWith value (some (.Attribute o name pos')) pos.line env = pure false := by rfl) : EX (model prog w) A E B env (.Assign [.Attribute o name pos'] value pos) m hp Q := fun s r => by
  rw [plainObj_exec_Assign_Attribute o name pos' value pos hs]
  refine wpAny_bind (wpAny_standAt (wpAny_bind (h.use r fun u s₁ v hp₁ r₁ le₁ hu q => wpAny_bind ?_)))
  exact wpAny_mono (q s₁ u r₁ hu) (fun _ s₂ ⟨m₂, hp₂, r₂, le₂, q⟩ => wpAny_pure ⟨.next, m₂, hp₂, r₂, le₁.trans le₂, rfl, q⟩) fun _ _ x => x
theorem EX_doc {x : PySem.Str} {k p pos} {Q : AF → Loc → Hp → Prop} (h : Q .next m hp) (hi : interactive env = false := by rfl) (hs : swapsWith (.Constant (.str x) k p) none pos.line env = pure false := by rfl) :
    EX (model prog w) A E B env (.Expr (.Constant (.str x) k p) pos) m hp Q := EX_Expr (EV_strc ⟨by simp, by simp, by simp, h⟩) hi hs
theorem ret_ok {L : Addr} {Q : AV → Hp → Prop} {fl : AF} {m' : Loc} {hp₂ hp' : Hp} (le : Hp.Le (hp₂.set env.locals (.ns m)) hp') (hn : hp₂ L = none) (q : Q (retOf fl) hp₂) : RET L env m Q fl m' hp' := ⟨hp₂, le, hn, q⟩
theorem ret_same {L : Addr} {Q : AV → Hp → Prop} {fl : AF} {m' : Loc} (hL : hp L = none) (q : Q (retOf fl) hp) : RET L env m Q fl m' (hp.set env.locals (.ns m)) := ⟨hp, .refl _, hL, q⟩
theorem ret_put {L dx : Addr} {o : AO} {Q : AV → Hp → Prop} {fl : AF} {m' : Loc} (hL : hp L = none) (hd : dx ≠ env.locals) (hdL : dx ≠ L) (q : Q (retOf fl) (hp.set dx o)) : RET L env m Q fl m' ((hp.set env.locals (.ns m)).set dx o) :=
  ⟨hp.set dx o, by rw [Hp.set_comm _ _ _ hd]; exact .refl _, by rw [Hp.set_ne _ _ (Ne.symm hdL)]; exact hL, q⟩
end
end Mine

open PySem PySem.W PyProof.Rows PySem.Calls
namespace Mine
section
variable {prog : Program} {w : World} {A : Around} {E : Value → Shared → Prop} {B : Shared} {env : Env} {m : Loc} {hp : Hp} {K : Frag}
theorem ASG.mono {M : Model} {t : Expr} {x : AV} {Q Q' : Loc → Hp → Prop} (h : ASG M A E B env t x m hp Q) (k : ∀ m' hp', Q m' hp' → Q' m' hp') : ASG M A E B env t x m hp Q' := fun s v r hv =>
  wpAny_mono (h s v r hv) (fun _ _ ⟨m', hp', r', le, q⟩ => ⟨m', hp', r', le, k _ _ q⟩) fun _ _ x => x
end
end Mine

open PySem PySem.W PyProof.Rows PySem.Calls
namespace Mine
section
variable {prog : Program} {w : World} {A : Around} {B : Shared} {env : Env} {m : Loc} {hp : Hp} {h0 : Heap} {hk : Hp} {S : Addr} {F : Hp → Prop} {n : Nat} {c : Code} {fs : List Frame} {K : Flow → Sem Fin} {H : Value → Sem Fin}
end
end Mine

open PySem PySem.W PyProof.Rows PySem.Calls
namespace Mine
section
variable {prog : Program} {w : World} {A : Around} {B : Shared} {env : Env} {m : Loc} {hp : Hp} {h0 : Heap} {hk : Hp} {S : Addr} {F : Hp → Prop} {n : Nat} {c : Code} {fs : List Frame} {K : Flow → Sem Fin} {H : Value → Sem Fin}
end
end Mine

open PySem PySem.W PyProof.Rows PySem.Calls
namespace Mine
section
variable {prog : Program} {w : World} {A : Around} {E : Value → Shared → Prop} {B : Shared} {env : Env} {m : Loc} {hp : Hp} {h0 : Heap} {hk : Hp} {L S : Addr} {F : Hp → Prop} {n : Nat}
end
end Mine

open PySem PySem.W PyProof.Rows PySem.Calls
set_option maxRecDepth 100000
namespace Mine
section
variable {prog : Program} {w : World} {A : Around} {E : Value → Shared → Prop} {s : Shared} {R : Result → Shared → Prop}
end
end Mine

open PySem PySem.W PyProof.Rows PySem.Calls
set_option maxRecDepth 100000
namespace Mine
section
variable {prog : Program} {w : World} {A : Around} {E : Value → Shared → Prop} {B : Shared} {env : Env} {m : Loc} {hp : Hp} {K : Frag}
end
end Mine

open PySem PySem.W PyProof.Rows PySem.Calls
set_option maxRecDepth 100000
namespace Mine
section
variable {prog : Program} {w : World} {A : Around} {E : Value → Shared → Prop} {B : Shared} {env : Env} {m : Loc} {hp : Hp} {K : Frag}
end
end Mine

open PySem PySem.W PyProof.Rows PySem.Calls
set_option maxRecDepth 100000
namespace Mine
section
variable {prog : Program} {w : World} {A : Around} {E : Value → Shared → Prop} {B : Shared} {env : Env} {m : Loc} {hp : Hp} {K : Frag}
theorem CL_max {a b : Int} {Q : AV → Hp → Prop} (hh : A.handled = none) (h : Q (.int (if b > a then b else a)) hp) : CL (model prog w) A E B env (.builtin "max") m [.int a, .int b] hp Q := fun s vs r hv => by
  obtain ⟨v, u, rfl, h1, h2⟩ := VRs_two hv
  simp only [VR] at h1 h2; obtain ⟨t, rfl⟩ := h1; obtain ⟨t', rfl⟩ := h2
  refine PySem.max_two_ints hh fun h' tk k => ?_
  obtain ⟨r', le⟩ := r.grown k tk
  refine ⟨_, hp, r', le, ?_, h⟩
  split <;> exact VR_int
end
end Mine
namespace Mine
section
variable {prog : Program} {w : World} {A : Around} {E : Value → Shared → Prop} {s : Shared}
end
end Mine

open PySem PySem.W PyProof.Rows PySem.Calls
set_option maxRecDepth 100000
namespace Mine
section
variable {prog : Program} {w : World} {A : Around} {E : Value → Shared → Prop} {B : Shared} {env : Env} {m : Loc} {hp : Hp} {K : Frag}
end
end Mine

open PySem PySem.W PyProof.Rows PySem.Calls
set_option maxRecDepth 100000
namespace Mine
section
variable {prog : Program} {w : World} {A : Around} {B : Shared} {env : Env} {m : Loc} {hp : Hp} {h0 : Heap} {hk : Hp} {S : Addr} {F : Hp → Prop} {n : Nat} {c : Code} {fs : List Frame} {K : Flow → Sem PySem.Fin} {H : Value → Sem PySem.Fin}
end
end Mine

open PySem PySem.W PyProof.Rows PySem.Calls
set_option maxRecDepth 100000
namespace Mine
theorem VRs_ints {h : Heap} : ∀ {ns : List Int} {vs : List Value}, VRs h (ns.map .int) vs → ∃ xs : List (Int × Tok), vs = xs.map (fun p => .int p.1 p.2) ∧ xs.map (·.1) = ns
  | [], vs, e => by simp only [List.map_nil, VRs] at e; exact ⟨[], e, rfl⟩
  | n :: ns, vs, e => by
    simp only [List.map_cons, VRs, VR] at e
    obtain ⟨v, r, rfl, ⟨t, rfl⟩, e3⟩ := e
    obtain ⟨xs, rfl, rfl⟩ := VRs_ints e3
    exact ⟨(n, t) :: xs, rfl, rfl⟩
section
variable {prog : Program} {w : World} {A : Around} {E : Value → Shared → Prop} {B : Shared} {env : Env} {m : Loc} {hp : Hp} {K : Frag}
def TSTs (M : Model) (A : Around) (E : Value → Shared → Prop) (B : Shared) (env : Env) (ifs : List Expr) (m : Loc) (hp : Hp) (Q : Bool → Hp → Prop) : Prop :=
  ∀ s, Rel B (hp.set env.locals (.ns m)) s → wpAny M A (forIn ifs true fun c r => if r = true then do let ok ← isTrue c env (eval c env); pure (ForInStep.yield ok) else pure (ForInStep.yield r)) (fun b s' => ∃ hp', Rel B (hp'.set env.locals (.ns m)) s' ∧ ImmLe s.heap s'.heap ∧ Q b hp') E s
theorem TSTs_nil {Q : Bool → Hp → Prop} (h : Q true hp) : TSTs (model prog w) A E B env [] m hp Q := fun s r => wpAny_tests_nil ⟨hp, r, .refl _, h⟩
theorem TSTs_one {c : Expr} {Q : Bool → Hp → Prop} (h : TST (model prog w) A E B env c m hp Q) : TSTs (model prog w) A E B env [c] m hp Q := fun s r => wpAny_tests_one (h s r)
theorem Comp_core {elt target iter : Expr} {ifs : List Expr} {scope : Scope} {pos : Pos} {it acc : Addr} {n : Nat} {el : Nat → AV} {st : Nat → Obj → Prop} {I : Nat → List AV → Loc → Hp → Prop} {R : Result → Shared → Prop} (hL : it ≠ env.locals) (hA : acc ≠ env.locals) (hn : n ≤ 1000)
    (imm : ∀ i ob, st i ob → ¬ Imm ob)
    (next : ∀ i ys m₂ hp₂ s ob, i < n → I i ys m₂ hp₂ → hp₂ it = some (.obj ob) → st i ob → Rel B (hp₂.set env.locals (.ns m₂)) s → ∀ (E' : Value → Shared → Prop) (W : Option Value → Shared → Prop),
      (∀ v h' t' ob', VR s.heap (el i) v → h'.get? it = some ob' → st (i + 1) ob' → Heap.SameBut it s.heap h' → W (some v) { s with heap := h', toks := t' }) → wpAny (model prog w) A (pyNext (.ref it)) W E' s)
    (stop : ∀ ys m₂ hp₂ s ob, I n ys m₂ hp₂ → hp₂ it = some (.obj ob) → st n ob → Rel B (hp₂.set env.locals (.ns m₂)) s → ∀ (E' : Value → Shared → Prop) (W : Option Value → Shared → Prop),
      (∀ h' t', Heap.ExtBut it s.heap h' → W none { s with heap := h', toks := t' }) → wpAny (model prog w) A (pyNext (.ref it)) W E' s)
    (hset : ∀ i ys m₂ hp₂ ob, I i ys m₂ hp₂ → I i ys m₂ (hp₂.set it (.obj ob)))
    (hacc : ∀ i ys m₂ hp₂ zs, I i ys m₂ hp₂ → I i ys m₂ (hp₂.set acc (.list zs)))
    (turn : ∀ i ys m₂ hp₂ ob, i < n → I i ys m₂ hp₂ → hp₂ it = some (.obj ob) → hp₂ acc = some (.list ys) → ASG (model prog w) A (fun _ _ => False) B env target (el i) m₂ hp₂ fun m₃ hp₃ => TSTs (model prog w) A (fun _ _ => False) B env ifs m₃ hp₃ fun b hp₄ =>
      if b then EV (model prog w) A (fun _ _ => False) B env elt m₃ hp₄ fun v hp₅ => I (i + 1) (ys ++ [v]) m₃ hp₅ ∧ hp₅ it = some (.obj ob) ∧ hp₅ acc = some (.list ys)
      else I (i + 1) ys m₃ hp₄ ∧ hp₄ it = some (.obj ob) ∧ hp₄ acc = some (.list ys)) {s₀ : Shared}
    (hR : ∀ ys m' hp' s', I n ys m' hp' → hp' acc = some (.list ys) → Rel B ((hp'.del it).set env.locals (.ns m')) s' → ImmLe s₀.heap s'.heap → R (.ok .next) s')
    {s : Shared} {ob : Obj} (h0 : I 0 [] m hp) (hob : hp it = some (.obj ob)) (hac : hp acc = some (.list [])) (hst : st 0 ob) (rel : Rel B (hp.set env.locals (.ns m)) s) (le₀ : ImmLe s₀.heap s.heap)
    (cl : ∀ i ob, st i ob → ∃ n, ob.cls = .type n ∧ ["enumerate", "zip", "dict_itemiterator", "dict_reverseitemiterator", "odict_iterator", "itertools.zip_longest", "itertools.pairwise"].contains n = false) :
    codeAny (model prog w) A (.compLoop (.ListComp elt [⟨target, iter, ifs, 0⟩] scope pos) 0 (.ref it) (.ref acc) env) R s := by
  refine codeAny_loop rfl (fun k s' => ∃ i ys m₂ hp₂ ob, k = n - i ∧ i ≤ n ∧ ys.length ≤ i ∧ I i ys m₂ hp₂ ∧ hp₂ it = some (.obj ob) ∧ hp₂ acc = some (.list ys) ∧ st i ob ∧ Rel B (hp₂.set env.locals (.ns m₂)) s' ∧ ImmLe s₀.heap s'.heap) (fun k s' x => ?_) n ⟨0, [], m, hp, ob, rfl, Nat.zero_le _, Nat.zero_le _, h0, hob, hac, hst, rel, le₀⟩
  obtain ⟨i, ys, m₂, hp₂, ob, rfl, hi, hyl, hI, hob, hac, hst, r, le⟩ := x
  show wpAny _ A ((compTurn (.ListComp elt [⟨target, iter, ifs, 0⟩] scope pos) 0 (.ref it) (.ref acc) env).onRaise (fun x => do noteFrame x env; theTreesLotGoes x)) _ _ s'
  refine wpAny_noted ?_
  rw [compTurn_list]
  refine wpAny_bind (wpAny_standAt (wpAny_bind ?_))
  by_cases hlt : i < n
  · refine next i ys m₂ hp₂ s' ob hlt hI hob hst r _ _ fun v h' t' ob' hv hg hst' hs => ?_
    have t := r.turn (a := it) (o := .obj ob) (by rw [Hp.set_ne _ _ hL]; exact hob) hs (.obj ob') (fun _ => ⟨hg, imm _ _ hst'⟩) t'
    rw [Hp.set_comm _ _ _ (Ne.symm hL)] at t
    obtain ⟨nm, hcl, hno⟩ := cl _ _ hst'
    have hai : acc ≠ it := fun e => by rw [e, hob] at hac; cases hac
    refine wpAny_bind (letOwned_plain hg hcl hno ?_)
    have hturn := turn i ys m₂ (hp₂.set it (.obj ob')) ob' hlt (hset _ _ _ _ _ hI) (Hp.set_same ..) (by rw [Hp.set_ne _ _ hai]; exact hac)
    refine wpAny_bind (wpAny_mono (hturn _ v t.1 (hv.mono t.2)) (fun _ s₃ ⟨m₃, hp₃, r₃, le₃, q⟩ => wpAny_bind ?_) fun _ _ x => x.elim)
    refine wpAny_mono (q s₃ r₃) (fun b s₄ ⟨hp₄, r₄, le₄, q⟩ => ?_) fun _ _ x => x.elim
    cases b with
    | false =>
      rw [if_neg Bool.false_ne_true] at q
      exact wpAny_pure ⟨rfl, n - (i + 1), by omega, i + 1, ys, m₃, hp₄, ob', rfl, hlt, by omega, q.1, q.2.1, q.2.2, hst', r₄, ((le.trans t.2).trans le₃).trans le₄⟩
    | true =>
      rw [if_pos rfl] at q
      refine wpAny_bind (wpAny_bind (wpAny_mono (q s₄ r₄) (fun x s₅ ⟨av, hp₅, r₅, le₅, hx, q⟩ => wpAny_bind ?_) fun _ _ x => x.elim))
      obtain ⟨us, nn, hl, hus⟩ := r₅.at q.2.2 hA
      have e2 : us.size = ys.length := by rw [← Array.length_toList]; exact hus.length
      refine wpAny_list_append_plain (items := us) ⟨nn, hl⟩ (fun h'' hpl hs' => ?_) (by rw [e2]; have := sizeLine_eq; omega)
      obtain ⟨n', hl'⟩ := hpl
      have t₅ := r₅.turn (a := acc) (by rw [Hp.set_ne _ _ hA]; exact q.2.2) hs' (.list (ys ++ [av])) (fun le => ⟨us.push x, n', hl', by rw [Array.toList_push]; exact (hus.mono le).append (VRs.one (hx.mono le))⟩) s₅.toks
      rw [Hp.set_comm _ _ _ (Ne.symm hA)] at t₅
      exact wpAny_pure (wpAny_pure ⟨rfl, n - (i + 1), by omega, i + 1, ys ++ [av], m₃, _, ob', rfl, hlt, by simp; omega, hacc _ _ _ _ _ q.1, by rw [Hp.set_ne _ _ (Ne.symm hai)]; exact q.2.1, Hp.set_same .., hst', t₅.1, ((((le.trans t.2).trans le₃).trans le₄).trans le₅).trans t₅.2⟩)
  · have : i = n := by omega
    subst this
    refine stop ys m₂ hp₂ s' ob hI hob hst r _ _ fun h' t' he => ?_
    obtain ⟨r', le'⟩ := r.drop hob hL he t'
    exact wpAny_pure (hR ys m₂ hp₂ _ hI hac r' (le.trans le'))
theorem Rel.forget {s : Shared} (r : Rel B hp s) {C : Addr} {o : AO} (hC : hp C = some o) {h' : Heap} (hs : Heap.SameBut C s.heap h') (t : Nat) : Rel B (hp.del C) { s with heap := h', toks := t } ∧ ImmLe s.heap h' := by
  have he := hs.extBut
  have le : ImmLe s.heap h' := fun b ob e i => by
    by_cases hb : b = C
    · subst hb; exact absurd i ((r.objs _ _ hC).2.notImm _ e)
    · exact he b ob hb e
  refine ⟨⟨fun b ob e => he b ob (fun hb => ?_) (r.keep b ob e), fun a ob e => ?_, r.os, r.bare, by show _ ≤ h'.objs.size; rw [hs.1]; exact r.size⟩, le⟩
  · subst hb; exact absurd (Heap.lt_size e) (Nat.not_lt.mpr (r.objs _ _ hC).1)
  · by_cases ha : a = C
    · subst ha; simp [Hp.del] at e
    · rw [Hp.del_ne _ ha] at e
      exact ⟨(r.objs a ob e).1, (r.objs a ob e).2.here le fun o' e'' => he _ _ ha e''⟩
theorem EV_CompL {elt target iter : Expr} {ifs : List Expr} {scope : Scope} {pos : Pos} {cl : List (PySem.Str × Addr)} {Q : AV → Hp → Prop} (hh : A.handled = none) (hclos : closureFor scope env = pure cl) (hcell : ∀ y ∈ scope.names, y.2 ≠ .cell) (hnames : ∀ x ∈ scope.names, x.2 = .local → scope.names.lookup x.1 = some .local)
    (h : EV (model prog w) A E B env iter m hp fun o hp₁ => ∃ a xs, o = .ref a ∧ Lst B hp₁ env.locals a xs ∧ xs.length ≤ 1000 ∧ ∀ it acc C, hp₁ it = none → it ≠ env.locals → hp₁ acc = none → acc ≠ env.locals → acc ≠ it → hp₁ C = none → C ≠ env.locals → C ≠ it → C ≠ acc →
      ∃ I : Nat → List AV → Loc → Hp → Prop, (∀ ob, I 0 [] (fun _ => none) (((hp₁.set env.locals (.ns m)).set it (.obj ob)).set acc (.list []))) ∧ (∀ i ys m₂ hp₂ ob, I i ys m₂ hp₂ → I i ys m₂ (hp₂.set it (.obj ob))) ∧ (∀ i ys m₂ hp₂ zs, I i ys m₂ hp₂ → I i ys m₂ (hp₂.set acc (.list zs))) ∧
        (∀ i ys m₂ hp₂, I i ys m₂ hp₂ → Lst B hp₂ C a xs) ∧
        (∀ i x ys m₂ hp₂ ob, xs[i]? = some x → I i ys m₂ hp₂ → hp₂ it = some (.obj ob) → hp₂ acc = some (.list ys) → ASG (model prog w) A (fun _ _ => False) B (compEnvC scope cl C env) target x m₂ hp₂ fun m₃ hp₃ => TSTs (model prog w) A (fun _ _ => False) B (compEnvC scope cl C env) ifs m₃ hp₃ fun b hp₄ =>
          if b then EV (model prog w) A (fun _ _ => False) B (compEnvC scope cl C env) elt m₃ hp₄ fun v hp₅ => I (i + 1) (ys ++ [v]) m₃ hp₅ ∧ hp₅ it = some (.obj ob) ∧ hp₅ acc = some (.list ys)
          else I (i + 1) ys m₃ hp₄ ∧ hp₄ it = some (.obj ob) ∧ hp₄ acc = some (.list ys)) ∧
        (∀ ys m₂ hp₂, I xs.length ys m₂ hp₂ → hp₂ acc = some (.list ys) → ∃ hp₃, Hp.Le (hp₃.set env.locals (.ns m)) (hp₂.del it) ∧ hp₃ C = none ∧ Q (.ref acc) hp₃))
    (hs : ∀ x, foldedSetIterable iter env x = pure x := by intro _; rfl) (hkind : scope.kind = .function := by rfl) :
    EV (model prog w) A E B env (.ListComp elt [⟨target, iter, ifs, 0⟩] scope pos) m hp Q := fun s r => by
  rw [eval_ListComp]
  refine wpAny_comprehension_free (use := none) rfl hs hclos hkind hnames (h.use r fun u s₁ o hp₁ r₁ le₁ hu x => ?_)
  obtain ⟨a, xs, rfl, hl, hlen, x⟩ := x
  simp only [VR] at hu; subst hu
  obtain ⟨vs, hlst, hvs⟩ := r₁.lst hl
  refine wpAny_pyIter_list hlst ?_
  have n := r₁.newAt { cls := .type "list_iterator", data := .fields #[.ref a, .int 0 0] } (.obj { cls := .type "list_iterator", data := .fields #[.ref a, .int 0 0] }) ⟨Heap.get?_push_size _ rfl, fun i => by obtain ⟨_, _, _, e⟩ := i; cases e⟩
  generalize hit : s₁.heap.objs.size = it at *
  have n2 := Rel.newAt n.1 { cls := .type "list", data := .seq #[] } (.list []) ⟨#[], 0, IsL.new _ _, by simp [VRs]⟩
  have le2 : ImmLe s.heap ((s₁.heap.push { cls := .type "list_iterator", data := .fields #[.ref a, .int 0 0] }).push { cls := .type "list", data := .seq #[] }) := (le₁.trans n.2.2.2).trans n2.2.2.2
  refine wpAny_newObj_type ?_
  dsimp only
  have n2c : hp₁.set it (.obj { cls := .type "list_iterator", data := .fields #[.ref a, .int 0 0] }) (s₁.heap.push { cls := .type "list_iterator", data := .fields #[.ref a, .int 0 0] }).objs.size = none := n2.2.1
  have n2d : (s₁.heap.push { cls := .type "list_iterator", data := .fields #[.ref a, .int 0 0] }).objs.size ≠ env.locals := n2.2.2.1
  have n2e := n2.1
  generalize hac : (s₁.heap.push { cls := .type "list_iterator", data := .fields #[.ref a, .int 0 0] }).objs.size = acc at *
  refine wpAny_newFunctionEnv hcell (by intro y hy; simp at hy) (fun h₁ hns₁ hsb₁ => ?_) hkind
  dsimp only at hns₁ hsb₁ ⊢
  have n2f : Rel B (((hp₁.set it (.obj { cls := .type "list_iterator", data := .fields #[.ref a, .int 0 0] })).set acc (.list [])).set env.locals (.ns m)) { s₁ with heap := (s₁.heap.push { cls := .type "list_iterator", data := .fields #[.ref a, .int 0 0] }).push { cls := .type "list", data := .seq #[] } } := n2e
  generalize hH2 : (s₁.heap.push { cls := .type "list_iterator", data := .fields #[.ref a, .int 0 0] }).push { cls := .type "list", data := .seq #[] } = H2 at *
  have hacit : acc ≠ it := fun e => by rw [e, Hp.set_same] at n2c; cases n2c
  have hacp : hp₁ acc = none := by rw [Hp.set_ne _ _ hacit] at n2c; exact n2c
  have fr := n2f.fresh
  have hCe : H2.objs.size ≠ env.locals := fun e => by rw [show ({ s₁ with heap := H2 } : Shared).heap.objs.size = H2.objs.size from rfl, e, Hp.set_same] at fr; cases fr
  rw [show ({ s₁ with heap := H2 } : Shared).heap.objs.size = H2.objs.size from rfl, Hp.set_ne _ _ hCe] at fr
  have hCa : H2.objs.size ≠ acc := fun e => by rw [e, Hp.set_same] at fr; cases fr
  rw [Hp.set_ne _ _ hCa] at fr
  have hCi : H2.objs.size ≠ it := fun e => by rw [e, Hp.set_same] at fr; cases fr
  rw [Hp.set_ne _ _ hCi] at fr
  generalize hC : H2.objs.size = C at *
  have k₀ : ∀ b o, H2.get? b = some o → h₁.get? b = some o := fun b o e => hsb₁.extBut b o (by rw [← hC]; exact Nat.ne_of_lt (Heap.lt_size e)) (Heap.get?_push_of_some _ e)
  obtain ⟨I, i0, iset, iacc, ilst, iturn, ifin⟩ := x it acc C n.2.1 n.2.2.1 hacp n2d hacit fr hCe hCi hCa
  have e1 : ((hp₁.set it (.obj { cls := .type "list_iterator", data := .fields #[.ref a, .int 0 0] })).set acc (.list [])).set env.locals (.ns m) = ((hp₁.set env.locals (.ns m)).set it (.obj { cls := .type "list_iterator", data := .fields #[.ref a, .int 0 0] })).set acc (.list []) := by
    rw [Hp.set_comm _ _ _ n2d, Hp.set_comm _ _ _ n.2.2.1]
  rw [e1] at n2f
  have rel : Rel B ((((hp₁.set env.locals (.ns m)).set it (.obj { cls := .type "list_iterator", data := .fields #[.ref a, .int 0 0] })).set acc (.list [])).set C (.ns fun _ => none)) { s₁ with heap := h₁, toks := s₁.toks + 0 } := by
    refine ⟨fun b o e => k₀ _ _ (n2f.keep b o e), fun z o' e => ?_, n2f.os, n2f.bare, ?_⟩
    · by_cases hz : z = C
      · subst hz
        rw [Hp.set_same] at e
        cases e
        exact ⟨by rw [← hC]; exact n2f.size, _, hns₁, ⟨fun x v e => by simp at e, fun x _ => rfl⟩⟩
      · rw [Hp.set_ne _ _ hz] at e
        exact ⟨(n2f.objs z o' e).1, (n2f.objs z o' e).2.here (ImmLe.keep k₀) fun o'' e => k₀ _ _ e⟩
    · show _ ≤ h₁.objs.size
      rw [hsb₁.1, Heap.size_push]
      exact Nat.le_trans n2f.size (Nat.le_succ _)
  have loop : codeAny (model prog w) A (.compLoop (.ListComp elt [⟨target, iter, ifs, 0⟩] scope pos) 0 (.ref it) (.ref acc) (compEnvC scope cl C env))
      (compPost (model prog w) A E none (fun v s' => ∃ av hp', Rel B (hp'.set env.locals (.ns m)) s' ∧ ImmLe s.heap s'.heap ∧ VR s'.heap av v ∧ Q av hp') (.ref acc) C) { s₁ with heap := h₁, toks := s₁.toks + 0 } := by
    refine Comp_core (n := xs.length) (env := compEnvC scope cl C env) (el := fun i => xs.getD i .none) (st := fun i ob => ob.cls = .type "list_iterator" ∧ ob.data = .fields #[.ref a, .int i 0]) (I := I) (s₀ := s) (Ne.symm hCi) (Ne.symm hCa) hlen (fun i ob x i' => by obtain ⟨_, _, _, e⟩ := i'; rw [x.2] at e; cases e)
      (fun i ys m₂ hp₂ s' ob hi hI hob hst r' E' W k => ?_) (fun ys m₂ hp₂ s' ob hI hob hst r' E' W k => ?_) iset iacc (fun i ys m₂ hp₂ ob hi hI hob hac => iturn i _ ys m₂ hp₂ ob (by simp [List.getD, List.getElem?_eq_getElem hi]) hI hob hac)
      (fun ys m' hp' s' hI hac r' le' => ?_) (i0 _) (by rw [Hp.set_ne _ _ (Ne.symm hacit), Hp.set_same]) (Hp.set_same ..) ⟨rfl, rfl⟩ rel (le2.trans (ImmLe.keep k₀)) (fun _ _ x => ⟨_, x.1, rfl⟩)
    · obtain ⟨vs', hl', hvs'⟩ := r'.lst (ilst _ _ _ _ hI)
      obtain ⟨v, hv, hxv⟩ := hvs'.get (i := i) (x := xs.getD i .none) (by simp [List.getD, List.getElem?_eq_getElem hi])
      have hg : s'.heap.get? it = some ob := (r'.at hob (Ne.symm hCi)).1
      refine wpAny_pyNext_list_item (i := i) ⟨ob, hg, hst.1, hst.2⟩ hl' (by simpa using hv) fun h' hit' hs' => ?_
      obtain ⟨ob', hg', hc', hd'⟩ := hit'
      exact k v h' s'.toks ob' hxv hg' ⟨hc', hd'⟩ hs'
    · obtain ⟨vs', hl', hvs'⟩ := r'.lst (ilst _ _ _ _ hI)
      have hg : s'.heap.get? it = some ob := (r'.at hob (Ne.symm hCi)).1
      refine wpAny_pyNext_list_end hh (i := xs.length) ⟨ob, hg, hst.1, hst.2⟩ hl' ?_ fun h' he => k h' s'.toks he
      have e : vs'.size = xs.length := by rw [← Array.length_toList]; exact hvs'.length
      exact Array.getElem?_eq_none (by omega)
    · obtain ⟨hp₃, hle3, hc3, q⟩ := ifin ys m' hp' hI hac
      obtain ⟨mv, hn, _⟩ := (r'.objs _ _ (Hp.set_same ..)).2
      refine ⟨mv, hn, fun h' hs' => ?_⟩
      have f := r'.forget (Hp.set_same ..) hs' s'.toks
      refine ⟨.ref acc, hp₃, f.1.sub fun z o hz => ?_, le'.trans f.2, VR_ref, q⟩
      have hzC : z ≠ C := fun e => by rw [e, Hp.set_ne _ _ hCe, hc3] at hz; cases hz
      show ((hp'.del it).set C (.ns m')).del C z = some o
      rw [Hp.del_ne _ hzC, Hp.set_ne _ _ hzC]
      exact hle3 _ _ hz
  have hiter : h₁.get? it = some { cls := .type "list_iterator", data := .fields #[.ref a, .int 0 0] } := (rel.objs it (.obj { cls := .type "list_iterator", data := .fields #[.ref a, .int 0 0] }) (by rw [Hp.set_ne _ _ (Ne.symm hCi), Hp.set_ne _ _ (Ne.symm hacit), Hp.set_same])).2.1
  exact codeAny_compStart_list loop (wpAny_pyIter_listiter (s := { s₁ with heap := h₁, toks := s₁.toks + 0 }) ⟨_, hiter, rfl, rfl⟩ loop)
end
end Mine

open PySem PySem.W PyProof.Rows PySem.Calls
set_option maxRecDepth 100000
namespace Mine
section
variable {prog : Program} {w : World} {A : Around} {E : Value → Shared → Prop} {B : Shared} {env : Env} {m : Loc} {hp : Hp} {K : Frag}
end
end Mine

open PySem PySem.W PyProof.Rows PySem.Calls
set_option maxRecDepth 100000
namespace Mine
def bndOb (id : String) (a : Addr) : Obj := { cls := .type "builtin_function_or_method", data := .fields #[.builtin id, .ref a] }
theorem bndOb_notImm {id : String} {a : Addr} : ¬ Imm (bndOb id a) := by rintro ⟨_, _, _, e⟩; cases e
theorem mdg_entry : entryFor table "method_descriptor.__get__" = some Builtin.«method_descriptor.__get__» := entryFor_of_tree (by kernel_rfl)
theorem mdg_slot : Slot "method_descriptor" "__get__" "method_descriptor.__get__" :=
  .of (owner := "method_descriptor") (n := "__get__") (by rw [typeLookup_type, builtinLookup_eq_fast]; kernel_rfl) (by decide +kernel) (by decide +kernel) (by decide +kernel)
    (by first | exact .inl (by decide +kernel) | exact .inr (by decide +kernel)) (by rw [isSubtype_type]; kernel_rfl)
theorem mdg_args (a b c : Value) : argsOk "method_descriptor.__get__" ⟨[a, b, c], []⟩ := by unfold argsOk; kernel_rfl
theorem md_noset : typeLookup (.type "method_descriptor") (PySem.Str.ofString "__set__") = pure none := by rw [typeLookup_type, builtinLookup_eq_fast]; kernel_rfl
theorem md_nodel : typeLookup (.type "method_descriptor") (PySem.Str.ofString "__delete__") = pure none := by rw [typeLookup_type, builtinLookup_eq_fast]; kernel_rfl
structure BndOk (T : String) (name : PySem.Str) (id gid : String) : Prop where
  slot : Slot T name id
  ty : typeOf (.builtin id) = pure (.type "method_descriptor")
  ga : Slot T "__getattribute__" gid
  gn : (Value.builtin gid == Value.builtin "object.__getattribute__") = false
  ge : entryFor table gid = some Builtin.«object.__getattribute__»
  gargs : ∀ x y, argsOk gid ⟨[x, y], []⟩
  hook : typeLookup (.type T) (PySem.Str.ofString "__getattr__") = pure none
  plainName : ((["__module__", "__name__", "__qualname__", "__doc__", "__annotations__"] : List PySem.Str).contains name) = false
  told : Manifest.toldItsClass.contains id = false
section
variable {prog : Program} {w : World} {A : Around} {E : Value → Shared → Prop} {s : Shared}
theorem oga_find {T : String} {name : PySem.Str} {id gid : String} {a : Addr} {o : Obj} {Q : Builtin.ObjectAttr.Found → Shared → Prop} (b : BndOk T name id gid) (ho : s.heap.get? a = some o) (hc : o.cls = .type T) (hd : o.dict = none) (hn : ∀ c, o.data ≠ .cls c)
    (h : Q (.bind (.builtin "method_descriptor.__get__") (.builtin id)) s) : wpAny (model prog w) A (Builtin.ObjectAttr.find (.ref a) (.type T) name) Q E s := by
  unfold Builtin.ObjectAttr.find
  refine wpAny_bind (wpAny_of_eq b.slot.lookup (wpAny_bind ?_))
  show wpAny _ _ (specialOf (.builtin id) "__get__") _ _ s
  unfold specialOf
  refine wpAny_bind (wpAny_of_eq b.ty (wpAny_of_eq mdg_slot.lookup ?_))
  refine wpAny_bind ?_
  show wpAny _ _ (Builtin.ObjectAttr.takesStores (.builtin id) >>= _) _ _ s
  refine wpAny_bind ?_
  unfold Builtin.ObjectAttr.takesStores specialOf
  refine wpAny_bind (wpAny_bind (wpAny_of_eq b.ty (wpAny_of_eq md_noset ?_)))
  simp only [Option.isSome_none, Bool.false_eq_true, if_false]
  refine wpAny_bind (wpAny_bind (wpAny_of_eq b.ty (wpAny_of_eq md_nodel ?_)))
  refine wpAny_pure ?_
  simp only [Option.isSome_none, Bool.false_eq_true, if_false]
  refine wpAny_pure ?_
  dsimp only
  unfold Builtin.ObjectAttr.ownThenClass
  refine wpAny_bind ?_
  show wpAny _ _ (Builtin.ObjectAttr.ownDict a >>= _) _ _ s
  refine wpAny_bind ?_
  unfold Builtin.ObjectAttr.ownDict loadHead
  refine wpAny_bind (wpAny_loadPart ho ?_)
  have hin : wpAny (model prog w) A (instanceDict a false) (fun d s' => d = none ∧ s' = s) E s := by
    unfold instanceDict
    refine wpAny_bind (wpAny_loadPart ho ?_)
    rw [hc, hd]
    exact wpAny_pure ⟨rfl, rfl⟩
  have fin : wpAny (model prog w) A (Builtin.ObjectAttr.inDict name none) (fun r s' => wpAny (model prog w) A (match r with | some v => (do rule "getattr.instance-dict"; pure (.value v)) | none => (do Builtin.ObjectAttr.copiedAttributeGuard name (.ref a); Builtin.ObjectAttr.byTheClass (some (.builtin id)) (some (.builtin "method_descriptor.__get__")))) Q E s') E s := by
    refine wpAny_pure ?_
    dsimp only
    refine wpAny_bind ?_
    unfold Builtin.ObjectAttr.copiedAttributeGuard
    dsimp only
    rw [b.plainName]
    refine wpAny_pure ?_
    exact wpAny_bind (wpAny_rule (wpAny_pure h))
  have post : ∀ d s', d = none ∧ s' = s → wpAny (model prog w) A (Builtin.ObjectAttr.inDict name d) (fun r s' => wpAny (model prog w) A (match r with | some v => (do rule "getattr.instance-dict"; pure (.value v)) | none => (do Builtin.ObjectAttr.copiedAttributeGuard name (.ref a); Builtin.ObjectAttr.byTheClass (some (.builtin id)) (some (.builtin "method_descriptor.__get__")))) Q E s') E s' := by
    rintro d s' ⟨rfl, rfl⟩; exact fin
  obtain ⟨oc, od, odt, osl⟩ := o
  cases odt with
  | cls c => exact absurd rfl (hn c)
  | _ => exact wpAny_mono hin post fun _ _ x => x
theorem getAttr_bound {T : String} {name : PySem.Str} {id gid : String} {a : Addr} {o : Obj} {Q : Value → Shared → Prop} (b : BndOk T name id gid) (ho : s.heap.get? a = some o) (hc : o.cls = .type T) (hd : o.dict = none) (hn : ∀ c, o.data ≠ .cls c)
    (hck : ∀ {s : Shared} {o : Obj} {Q : Value → Shared → Prop}, s.heap.get? a = some o → o.cls = .type T → Q (.ref s.heap.objs.size) { s with heap := s.heap.push (bndOb id a) } → wpAny (model prog w) A.in1 (call (.builtin "method_descriptor.__get__") [.builtin id, .ref a, .type T]) Q (fun _ _ => False) s)
    (h : Q (.ref s.heap.objs.size) { s with heap := s.heap.push (bndOb id a), toks := s.toks + 1 }) : wpAny (model prog w) A (getAttr (.ref a) name true) Q E s := by
  unfold getAttr
  refine wpAny_bind (wpAny_mkText ?_)
  unfold getAttrBy
  have hT : ({ s with toks := s.toks + 1 } : Shared).TypeIs (.ref a) T := ⟨o, ho, hc⟩
  refine wpAny_holding (wpAny_bind (wpAny_typeOf hT (wpAny_bind (wpAny_of_eq b.ga.lookup ?_))))
  dsimp only [onTheHeap]
  simp only [Bool.false_and, Bool.false_eq_true, if_false]
  unfold getAttrByItsOwn hookBefore
  dsimp only [onTheHeap]
  simp only [Bool.false_eq_true, if_false]
  refine wpAny_bind (wpAny_pure (wpAny_bind (wpAny_attempt (wpAny_holding ?_))))
  unfold callGetattribute
  dsimp only [onTheHeap]
  simp only [Bool.and_false, Bool.false_eq_true, if_false]
  unfold boundAndCalled
  refine wpAny_bind (wpAny_of_eq (b.ga.bind _) ?_)
  refine wpAny_call_entry b.ga hT b.ge ?_ (b.gargs _ _)
  unfold Builtin.«object.__getattribute__»
  refine wpAny_bind (wpAny_of_eq (a := (.ref a, [.str name s.toks])) rfl ?_)
  dsimp only
  refine wpAny_bind (wpAny_of_eq (a := name) rfl (wpAny_bind (wpAny_typeOf hT (wpAny_bind (oga_find (s := { s with toks := s.toks + 1 }) b ho hc hd hn ?_)))))
  dsimp only
  unfold Builtin.ObjectAttr.bindTo
  refine wpAny_bind (wpAny_holding (wpAny_mono (hck (s := { s with toks := s.toks + 1 }) ho hc (Q := fun v s' => v = .ref s.heap.objs.size ∧ s' = { s with heap := s.heap.push (bndOb id a), toks := s.toks + 1 }) ⟨rfl, rfl⟩) (fun v s' x => ?_) fun _ _ x => x.elim))
  obtain ⟨rfl, rfl⟩ := x
  refine wpAny_pure ⟨_, rfl, ?_⟩
  exact wpAny_pure h

theorem mdg_run_dget {a : Addr} {s : Shared} {o : Obj} {Q : Value → Shared → Prop} (ho : s.heap.get? a = some o) (hc : o.cls = .type "dict") (h : Q (.ref s.heap.objs.size) { s with heap := s.heap.push (bndOb "dict.get" a) }) :
    wpAny (model prog w) A (call (.builtin "method_descriptor.__get__") [.builtin "dict.get", .ref a, .type "dict"]) Q E s := by
  have hty : typeOf (.builtin "dict.get") = pure (.type "method_descriptor") := by show builtinType _ = _; rw [builtinType_eq_fast]; kernel_rfl
  refine wpAny_call_entry mdg_slot hty mdg_entry ?_ (mdg_args _ _ _)
  unfold Builtin.«method_descriptor.__get__»
  refine wpAny_bind (wpAny_of_eq (a := (.builtin "dict.get", some (.ref a), some (.type "dict"))) (by first | rfl | kernel_rfl) ?_)
  dsimp only
  rw [show Manifest.toldItsClass.contains "dict.get" = false from by decide +kernel]
  simp only [Bool.false_eq_true, if_false]
  refine wpAny_bind (m := _) ?_
  refine wpAny_bind (wpAny_of_eq (a := (PySem.Str.ofString "get", .type "dict")) (by first | rfl | kernel_rfl) ?_)
  dsimp only
  refine wpAny_bind (wpAny_isInstance (T := "dict") (b := true) ⟨o, ho, hc⟩ (by rw [isSubtype_type]; kernel_rfl) ?_)
  simp only [Bool.not_true, Bool.false_eq_true, if_false]
  refine wpAny_pure ?_
  unfold newFields
  refine wpAny_bind (wpAny_newObj_type (wpAny_pure ⟨_, rfl, h⟩))
theorem bnd_dget : BndOk "dict" (PySem.Str.ofString "get") "dict.get" "dict.__getattribute__" where
  gn := by decide +kernel
  ge := entryFor_alias (id' := "object.__getattribute__") (by kernel_rfl) rfl (by decide +kernel) (by kernel_rfl)
  gargs := fun _ _ => by unfold argsOk; kernel_rfl
  slot := .of (owner := "dict") (n := "get") (by rw [typeLookup_type, builtinLookup_eq_fast]; kernel_rfl) (by decide +kernel) (by decide +kernel) (by decide +kernel)
    (by first | exact .inl (by decide +kernel) | exact .inr (by decide +kernel)) (by rw [isSubtype_type]; kernel_rfl)
  ty := by show builtinType _ = _; rw [builtinType_eq_fast]; kernel_rfl
  ga := .of (owner := "dict") (n := "__getattribute__") (by rw [typeLookup_type, builtinLookup_eq_fast]; kernel_rfl) (by decide +kernel) (by decide +kernel) (by decide +kernel)
    (by first | exact .inl (by decide +kernel) | exact .inr (by decide +kernel)) (by rw [isSubtype_type]; kernel_rfl)
  hook := by rw [typeLookup_type, builtinLookup_eq_fast]; kernel_rfl
  plainName := by decide +kernel
  told := by decide +kernel

theorem mdg_run_scont {a : Addr} {s : Shared} {o : Obj} {Q : Value → Shared → Prop} (ho : s.heap.get? a = some o) (hc : o.cls = .type "set") (h : Q (.ref s.heap.objs.size) { s with heap := s.heap.push (bndOb "set.__contains__" a) }) :
    wpAny (model prog w) A (call (.builtin "method_descriptor.__get__") [.builtin "set.__contains__", .ref a, .type "set"]) Q E s := by
  have hty : typeOf (.builtin "set.__contains__") = pure (.type "method_descriptor") := by show builtinType _ = _; rw [builtinType_eq_fast]; kernel_rfl
  refine wpAny_call_entry mdg_slot hty mdg_entry ?_ (mdg_args _ _ _)
  unfold Builtin.«method_descriptor.__get__»
  refine wpAny_bind (wpAny_of_eq (a := (.builtin "set.__contains__", some (.ref a), some (.type "set"))) (by first | rfl | kernel_rfl) ?_)
  dsimp only
  rw [show Manifest.toldItsClass.contains "set.__contains__" = false from by decide +kernel]
  simp only [Bool.false_eq_true, if_false]
  refine wpAny_bind (m := _) ?_
  refine wpAny_bind (wpAny_of_eq (a := (PySem.Str.ofString "__contains__", .type "set")) (by first | rfl | kernel_rfl) ?_)
  dsimp only
  refine wpAny_bind (wpAny_isInstance (T := "set") (b := true) ⟨o, ho, hc⟩ (by rw [isSubtype_type]; kernel_rfl) ?_)
  simp only [Bool.not_true, Bool.false_eq_true, if_false]
  refine wpAny_pure ?_
  unfold newFields
  refine wpAny_bind (wpAny_newObj_type (wpAny_pure ⟨_, rfl, h⟩))
theorem bnd_scont : BndOk "set" (PySem.Str.ofString "__contains__") "set.__contains__" "set.__getattribute__" where
  gn := by decide +kernel
  ge := entryFor_alias (id' := "object.__getattribute__") (by kernel_rfl) rfl (by decide +kernel) (by kernel_rfl)
  gargs := fun _ _ => by unfold argsOk; kernel_rfl
  slot := .of (owner := "set") (n := "__contains__") (by rw [typeLookup_type, builtinLookup_eq_fast]; kernel_rfl) (by decide +kernel) (by decide +kernel) (by decide +kernel)
    (by first | exact .inl (by decide +kernel) | exact .inr (by decide +kernel)) (by rw [isSubtype_type]; kernel_rfl)
  ty := by show builtinType _ = _; rw [builtinType_eq_fast]; kernel_rfl
  ga := .of (owner := "set") (n := "__getattribute__") (by rw [typeLookup_type, builtinLookup_eq_fast]; kernel_rfl) (by decide +kernel) (by decide +kernel) (by decide +kernel)
    (by first | exact .inl (by decide +kernel) | exact .inr (by decide +kernel)) (by rw [isSubtype_type]; kernel_rfl)
  hook := by rw [typeLookup_type, builtinLookup_eq_fast]; kernel_rfl
  plainName := by decide +kernel
  told := by decide +kernel

end
end Mine

open PySem PySem.W PyProof.Rows PySem.Calls
set_option maxRecDepth 100000
namespace Mine
theorem IPairs.pairs {prog : Program} {w : World} : ∀ {es : List DictEntry} {ps : List (Int × Value)}, IPairs es ps → Pairs (intKind prog w) es ps
  | [], ps, h => by simp only [IPairs] at h; subst h; exact .nil
  | e :: es, ps, h => by
    simp only [IPairs] at h
    obtain ⟨kv, r, rfl, h1, h2, h3⟩ := h
    exact .cons h1 h2 (IPairs.pairs h3)
theorem IPairs.of {prog : Program} {w : World} {es : List DictEntry} {ps : List (Int × Value)} (h : Pairs (intKind prog w) es ps) : IPairs es ps := by
  induction h with
  | nil => simp [IPairs]
  | cons h1 h2 _ ih => simp only [IPairs]; exact ⟨_, _, rfl, h1, h2, ih⟩
theorem IDict.of {prog : Program} {w : World} {h : Heap} {a : Addr} {ps : List (Int × Value)} (x : h.DictOf (intKind prog w) a ps) : IDict h a ps :=
  let ⟨o, es, ep, h1, h2, h3, h4, h5, h6⟩ := x; ⟨o, es, ep, h1, h2, h3, h4, IPairs.of h5, h6⟩
theorem IDict.dictOf {h : Heap} {a : Addr} {ps : List (Int × Value)} (x : IDict h a ps) (prog : Program) (w : World) : h.DictOf (intKind prog w) a ps :=
  let ⟨o, es, ep, h1, h2, h3, h4, h5, h6⟩ := x; ⟨o, es, ep, h1, h2, h3, h4, h5.pairs, h6⟩
def dget (kvs : List (Int × AV)) (k : Int) : Option AV := (kvs.find? fun kv => kv.1 = k).map (·.2)
def dput (kvs : List (Int × AV)) (k : Int) (v : AV) : List (Int × AV) :=
  if kvs.any (fun kv => kv.1 = k) then kvs.map (fun kv => if kv.1 = k then (kv.1, v) else kv) else kvs ++ [(k, v)]
def KVR (h : Heap) (kvs : List (Int × AV)) (ps : List (Int × Value)) : Prop := ps.map (·.1) = kvs.map (·.1) ∧ VRs h (kvs.map (·.2)) (ps.map (·.2))
theorem KVR.mono {h h' : Heap} (le : ImmLe h h') {kvs : List (Int × AV)} {ps : List (Int × Value)} (x : KVR h kvs ps) : KVR h' kvs ps := ⟨x.1, x.2.mono le⟩
theorem KVR.length {h : Heap} {kvs : List (Int × AV)} {ps : List (Int × Value)} (x : KVR h kvs ps) : ps.length = kvs.length := by
  have := congrArg List.length x.1; simpa using this
theorem KVR.cons {h : Heap} {k : Int} {v : AV} {kvs : List (Int × AV)} {ps : List (Int × Value)} (x : KVR h ((k, v) :: kvs) ps) : ∃ u r, ps = (k, u) :: r ∧ VR h v u ∧ KVR h kvs r := by
  obtain ⟨h1, h2⟩ := x
  cases ps with
  | nil => simp at h1
  | cons p r =>
    obtain ⟨k', u⟩ := p
    simp only [List.map_cons, List.cons.injEq, VRs] at h1 h2
    obtain ⟨u', r', ⟨rfl, rfl⟩, h3, h4⟩ := h2
    obtain ⟨rfl, h5⟩ := h1
    exact ⟨_, _, rfl, h3, h5, h4⟩
theorem KVR.mk_cons {h : Heap} {k : Int} {v : AV} {u : Value} {kvs : List (Int × AV)} {ps : List (Int × Value)} (hv : VR h v u) (x : KVR h kvs ps) : KVR h ((k, v) :: kvs) ((k, u) :: ps) :=
  ⟨by simp [x.1], by simp only [List.map_cons, VRs]; exact ⟨_, _, rfl, hv, x.2⟩⟩
theorem KVR.get {h : Heap} {k : Int} : ∀ {kvs : List (Int × AV)} {ps : List (Int × Value)}, KVR h kvs ps → (∀ v, dget kvs k = some v → ∃ u, valueAt ps k = some u ∧ VR h v u) ∧ (dget kvs k = none → valueAt ps k = none)
  | [], ps, x => by
    have : ps = [] := by have := x.length; exact List.length_eq_zero_iff.mp this
    subst this
    exact ⟨fun v e => by simp [dget] at e, fun _ => rfl⟩
  | (k', v') :: kvs, ps, x => by
    obtain ⟨u, r, rfl, hv, x'⟩ := x.cons
    have ih := KVR.get (k := k) x'
    by_cases e : k' = k
    · simp only [dget, valueAt, List.find?_cons, e, decide_true, if_true, Option.map_some, Option.some.injEq] at ih ⊢
      exact ⟨fun v hv' => ⟨u, rfl, hv' ▸ hv⟩, fun h => by cases h⟩
    · simp only [dget, valueAt, List.find?_cons, e, decide_false] at ih ⊢
      exact ih
theorem KVR.any {h : Heap} {k : Int} : ∀ {kvs : List (Int × AV)} {ps : List (Int × Value)}, KVR h kvs ps → (ps.any fun kv => decide (kv.1 = k)) = (kvs.any fun kv => decide (kv.1 = k))
  | [], ps, x => by
    have : ps = [] := by have := x.length; exact List.length_eq_zero_iff.mp this
    subst this; rfl
  | (k', v') :: kvs, ps, x => by
    obtain ⟨u, r, rfl, hv, x'⟩ := x.cons
    simp only [List.any_cons, KVR.any x']
theorem KVR.append {h : Heap} {k : Int} {v : AV} {u : Value} (hv : VR h v u) : ∀ {kvs : List (Int × AV)} {ps : List (Int × Value)}, KVR h kvs ps → KVR h (kvs ++ [(k, v)]) (ps ++ [(k, u)])
  | [], ps, x => by
    have : ps = [] := by have := x.length; exact List.length_eq_zero_iff.mp this
    subst this; exact KVR.mk_cons hv ⟨rfl, by simp [VRs]⟩
  | (k', v') :: kvs, ps, x => by
    obtain ⟨u, r, rfl, hv', x'⟩ := x.cons
    exact KVR.mk_cons hv' (KVR.append hv x')
theorem KVR.map {h : Heap} {k : Int} {v : AV} {u : Value} (hv : VR h v u) : ∀ {kvs : List (Int × AV)} {ps : List (Int × Value)}, KVR h kvs ps →
    KVR h (kvs.map fun kv => if kv.1 = k then (kv.1, v) else kv) (ps.map fun kv => if kv.1 = k then (kv.1, u) else kv)
  | [], ps, x => by
    have : ps = [] := by have := x.length; exact List.length_eq_zero_iff.mp this
    subst this; exact ⟨rfl, by simp [VRs]⟩
  | (k', v') :: kvs, ps, x => by
    obtain ⟨u, r, rfl, hv', x'⟩ := x.cons
    simp only [List.map_cons]
    by_cases e : k' = k
    · simp only [e, if_true]; exact KVR.mk_cons hv (KVR.map hv x')
    · simp only [e, if_false]; exact KVR.mk_cons hv' (KVR.map hv x')
theorem KVR.put {h : Heap} {k : Int} {v : AV} {u : Value} (hv : VR h v u) {kvs : List (Int × AV)} {ps : List (Int × Value)} (x : KVR h kvs ps) : KVR h (dput kvs k v) (PySem.stored ps k u) := by
  unfold dput PySem.stored
  rw [x.any]
  split
  · exact x.map hv
  · exact x.append hv
section
variable {prog : Program} {w : World} {A : Around} {E : Value → Shared → Prop} {s : Shared}
theorem setDefault_pairs {d : Addr} {ps : List (Int × Value)} {k : Int} {key dflt : Value} {Q : Value → Shared → Prop} (hkey : Value.isInt k key = true) (hm : s.heap.DictOf (intKind prog w) d ps)
    (hthere : ∀ v, valueAt ps k = some v → Q v { s with toks := s.toks + 1 })
    (hnew : valueAt ps k = none → ∀ h', h'.DictOf (intKind prog w) d (ps ++ [(k, dflt)]) → Heap.SameBut d s.heap h' → Q dflt { s with heap := h', toks := s.toks + 1 })
    (hz : ps.length ≤ sizeLine) :
    wpAny (model prog w) A (dictSetDefault d key dflt) Q E s := by
  obtain ⟨o, es, ep, ho, hc, hd, hk, hp, hn⟩ := hm
  have hkey' : (intKind prog w).is k key = true := hkey
  have hes : es.size ≤ sizeLine := by have e1 := hp.length; have e2 : es.toList.length = es.size := by simp
                                      omega
  unfold dictSetDefault
  refine wpAny_holding ?_
  refine wpAny_bind ((intKind prog w).pyHash hkey' ?_)
  refine wpAny_bind (wpAny_dictFind_of (s := { s with toks := s.toks + 1 }) hkey' ho hd hk ?_)
  have hidx : (es.findIdx? fun e => (intKind prog w).is k e.key) = ps.findIdx? fun kv => decide (kv.1 = k) := by
    rw [← hp.findIdx k]; obtain ⟨l⟩ := es; simp
  cases hi : es.findIdx? fun e => (intKind prog w).is k e.key with
  | some i =>
    have hl : (es.toList.findIdx? fun e => (intKind prog w).is k e.key) = some i := by rw [← hi]; obtain ⟨l⟩ := es; simp
    obtain ⟨e, he, hek, hev⟩ := hp.at hl
    refine wpAny_bind (wpAny_dictEntries (s := { s with toks := s.toks + 1 }) ho hd ?_)
    have he' : es[i]? = some e := by rw [← he]; obtain ⟨l⟩ := es; simp
    rw [he']
    exact wpAny_bind (wpAny_rule (wpAny_pure (hthere e.val hev)))
  | none =>
    have hnot : k ∉ ps.map (·.1) := not_mem_of_findIdx_none (hidx ▸ hi)
    have hfk : valueAt ps k = none := by
      unfold valueAt
      rw [List.find?_eq_none.mpr]; rfl
      intro x hx; simp only [decide_eq_true_eq]; exact fun e => hnot (List.mem_map.mpr ⟨x, hx, e⟩)
    refine wpAny_bind (wpAny_rule (wpAny_bind (wpAny_updateDictKeys (hz := hes) (s := { s with toks := s.toks + 1 }) ho hd (wpAny_pure (hnew hfk _ ⟨_, _, ep + 1, Heap.get?_update_self _ ho (Obj.isFreed_of_dict (Obj.data_mapDictKeys hd _)),
      hc.mapDictKeys _, Obj.data_mapDictKeys hd _, hk.push hkey' _, ?_, ?_⟩ (Heap.SameBut.update ..))))))
    · have := hp.append hkey' ((intKind prog w).hash k) dflt
      obtain ⟨l⟩ := es
      simpa using this
    · rw [List.map_append, List.nodup_append]
      refine ⟨hn, by simp, ?_⟩
      intro a ha b hb
      simp only [List.map_cons, List.map_nil, List.mem_singleton] at hb
      subst hb
      exact fun e => hnot (e ▸ ha)
end
end Mine

open PySem PySem.W PyProof.Rows PySem.Calls
set_option maxRecDepth 100000
namespace Mine
section
variable {prog : Program} {w : World} {A : Around} {E : Value → Shared → Prop} {B : Shared} {env : Env} {m : Loc} {hp : Hp} {K : Frag}
theorem Gnd.big (G : Gnd K B) : 3 < B.heap.objs.size := by
  obtain ⟨mg, mb, h, _⟩ := G.top
  exact h.lt
theorem Rel.notSys {s : Shared} (r : Rel B hp s) (G : Gnd K B) {d : Addr} {o : AO} (h : hp d = some o) : (d == sysModules) = false := by
  have h1 := (r.objs d o h).1
  have h2 := G.big
  have : d ≠ sysModules := fun e => by
    have h3 : B.heap.objs.size ≤ 1 := by rw [e] at h1; exact h1
    omega
  simpa using this
theorem Rel.dict {s : Shared} (r : Rel B (hp.set env.locals (.ns m)) s) {d : Addr} {kvs : List (Int × AV)} (h : hp d = some (.dict kvs)) (hL : d ≠ env.locals) : ∃ ps, (∀ prog w, s.heap.DictOf (intKind prog w) d ps) ∧ KVR s.heap kvs ps := by
  obtain ⟨ps, h1, h2, h3⟩ := r.at h hL
  exact ⟨ps, fun prog w => h1.dictOf prog w, h2, h3⟩
theorem Rel.putDict {s : Shared} (r : Rel B (hp.set env.locals (.ns m)) s) {d : Addr} {kvs kvs' : List (Int × AV)} (h : hp d = some (.dict kvs)) (hL : d ≠ env.locals) {h' : Heap} {ps' : List (Int × Value)} (hd : h'.DictOf (intKind prog w) d ps') (hs : Heap.SameBut d s.heap h') (hk : ImmLe s.heap h' → KVR h' kvs' ps') (t : Nat) :
    Rel B ((hp.set d (.dict kvs')).set env.locals (.ns m)) { s with heap := h', toks := t } ∧ ImmLe s.heap h' := by
  have x := r.turn (a := d) (by rw [Hp.set_ne _ _ hL]; exact h) hs (.dict kvs') (fun le => ⟨ps', IDict.of hd, (hk le).1, (hk le).2⟩) t
  rw [Hp.set_comm _ _ _ (Ne.symm hL)] at x
  exact x
theorem EV_dictE {pos} {Q : AV → Hp → Prop} (h : ∀ a, hp a = none → a ≠ env.locals → Q (.ref a) (hp.set a (.dict []))) : EV (model prog w) A E B env (.Dict [] [] pos) m hp Q := fun s r => by
  have n := r.newAt { cls := .type "dict", data := .dict #[] } (.dict []) ⟨[], IDict.of (Heap.DictOf.new (knd := intKind prog w) s.heap), rfl, by simp [VRs]⟩
  exact wpAny_Dict_empty ⟨.ref _, _, n.1, n.2.2.2, VR_ref, h _ n.2.1 n.2.2.1⟩
theorem isInt_of {h : Heap} {k : Int} {v : Value} (hv : VR h (.int k) v) : Value.isInt k v = true := by
  simp only [VR] at hv; obtain ⟨t, rfl⟩ := hv; simp [Value.isInt]
theorem ASG_ditem {o i : Expr} {pos} {v : AV} {Q : Loc → Hp → Prop}
    (h : EV (model prog w) A E B env o m hp fun ov hp₁ => EV (model prog w) A E B env i m hp₁ fun iv hp₂ => ∃ d kvs k, ov = .ref d ∧ iv = .int k ∧ hp₂ d = some (.dict kvs) ∧ d ≠ env.locals ∧ kvs.length ≤ 1000 ∧ Q m (hp₂.set d (.dict (dput kvs k v)))) : ASG (model prog w) A E B env (.Subscript o i pos) v m hp Q := fun s u r hu => by
  rw [assign_Subscript]
  refine wpAny_bind (wpAny_holding (h.use r fun ov s₁ av hp₁ r₁ le₁ hov q => wpAny_bind (wpAny_holding (q.use r₁ fun iv s₂ bv hp₂ r₂ le₂ hiv x => wpAny_bind (wpAny_standAt (wpAny_bind (wpAny_holding ?_)))))))
  obtain ⟨d, kvs, k, rfl, rfl, hd, hL, hlen, q⟩ := x
  have hki := isInt_of hiv
  simp only [VR] at hov; subst hov
  obtain ⟨ps, hD, hK⟩ := r₂.dict hd hL
  have hu₂ := hu.mono (le₁.trans le₂)
  refine wpAny_setItem_pairs (knd := intKind prog w) (k := k) hki (hD prog w) (fun h' hD' hs' => ?_) (by rw [hK.length]; have := sizeLine_eq; omega)
  have x := r₂.putDict (kvs' := dput kvs k v) hd hL hD' hs' (fun le => KVR.put (hu₂.mono le) (hK.mono le)) (s₂.toks + 1)
  exact wpAny_release ⟨m, _, x.1, (le₁.trans le₂).trans x.2, q⟩
theorem EV_bmeth {o e : Expr} {rest : List Expr} {name : PySem.Str} {id T : String} {apos pos} {pl : Sem Bool} {Q : AV → Hp → Prop} (slot : Slot T name id) (hty : typeOf (.builtin id) = pure (.type "method_descriptor")) (hpl : PlainAttrs T)
    (h : EV (model prog w) A E B env o m hp fun l hp₁ => ∃ a, l = .ref a ∧ (∀ s, Rel B (hp₁.set env.locals (.ns m)) s → ∃ ob, s.heap.get? a = some ob ∧ ob.cls = .type T ∧ ob.dict = none) ∧ EVS (model prog w) A E B env (e :: rest) m hp₁ fun vs hp₂ => CL (model prog w) A E B env (.builtin id) m (.ref a :: vs) hp₂ Q)
    (hc : eval (.Call (.Attribute o name apos) (e :: rest) [] pos) env = (do
      let ov ← eval o env
      standAt apos.atName
      let (f, first) ← holding [ov] (getMethod ov name pl)
      callWith pos f first (backTo pos (starEach (e :: rest) env)) []) := by rfl)
    (he : starEach (e :: rest) env = (false, eval e env) :: starEach rest env := by rfl) (hplain : (backTo pos (starEach rest env)).any (·.1) = false := by rfl) :
    EV (model prog w) A E B env (.Call (.Attribute o name apos) (e :: rest) [] pos) m hp Q := fun s r => by
  refine MethodCall_ (pl := pl) (h.use r fun u s₁ l hp₁ r₁ le₁ hu x => ?_) hc
  obtain ⟨a, rfl, ht, q⟩ := x
  simp only [VR] at hu; subst hu
  obtain ⟨ob, ho, hcl, hdn⟩ := ht s₁ r₁
  refine getMethod_builtin ⟨ob, ho, hcl⟩ hpl slot hty (fun b e => by cases e; exact ⟨ob, ho, hdn⟩) ?_
  refine callWith_method1 (wpAny_mono (q pos s₁ r₁) (fun vs s₂ ⟨avs, hp₂, r₂, le₂, hv, q⟩ => ?_) fun _ _ x => x) he hplain
  exact wpAny_mono (q s₂ (.ref a :: vs) r₂ (by simp only [VRs]; exact ⟨_, _, rfl, VR_ref, hv⟩)) (fun v s₃ ⟨av, hp₃, r₃, le₃, hv, q⟩ => ⟨av, hp₃, r₃, (le₁.trans le₂).trans le₃, hv, q⟩) fun _ _ x => x
theorem is_dict {d : Addr} {kvs : List (Int × AV)} (hd : hp d = some (.dict kvs)) (hL : d ≠ env.locals) : ∀ s, Rel B (hp.set env.locals (.ns m)) s → ∃ ob, s.heap.get? d = some ob ∧ ob.cls = .type "dict" ∧ ob.dict = none := fun s r => by
  obtain ⟨ps, ⟨o, es, ep, ho, hc, _⟩, _⟩ := r.at hd hL
  exact ⟨o, ho, hc.1, hc.2.1⟩
theorem CL_dget {d : Addr} {kvs : List (Int × AV)} {k : Int} {dv : AV} {Q : AV → Hp → Prop} (G : Gnd K B) (hd : hp d = some (.dict kvs)) (hL : d ≠ env.locals) (h : Q ((dget kvs k).getD dv) hp) : CL (model prog w) A E B env (.builtin "dict.get") m [.ref d, .int k, dv] hp Q := fun s vs r hv => by
  obtain ⟨v, u, x, rfl, h1, h2, h3⟩ : ∃ u v x, vs = [u, v, x] ∧ VR s.heap (.ref d) u ∧ VR s.heap (.int k) v ∧ VR s.heap dv x := by
    simp only [VRs] at hv; obtain ⟨v, r, rfl, h1, u, r', rfl, h2, z, r'', rfl, h3, rfl⟩ := hv; exact ⟨_, _, _, rfl, h1, h2, h3⟩
  have hki := isInt_of h2
  simp only [VR] at h1; subst h1
  obtain ⟨ps, hD, hK⟩ := r.dict hd hL
  refine call_meetsIn F.slot_dict_get (hD prog w).typeIs F.entry_dict_get (F.args_dict_get_3 _ _ _) (meets_dict_get_default (intKind prog w) d (k := k) hki (r.notSys G (by rw [Hp.set_ne _ _ hL]; exact hd)) x) ⟨_, (hD prog w).mapOf, ?_⟩
  refine ⟨_, hp, r.toks _, .refl _, ?_, h⟩
  have hg := hK.get (k := k)
  cases e : dget kvs k with
  | none => rw [hg.2 e]; exact h3
  | some y => obtain ⟨z, hz, hyz⟩ := hg.1 y e; rw [hz]; exact hyz
theorem CL_dsetdefault {d : Addr} {kvs : List (Int × AV)} {k : Int} {dv : AV} {Q : AV → Hp → Prop} (G : Gnd K B) (hd : hp d = some (.dict kvs)) (hL : d ≠ env.locals) (hlen : kvs.length ≤ 1000)
    (h : Q ((dget kvs k).getD dv) (if (dget kvs k).isSome then hp else hp.set d (.dict (kvs ++ [(k, dv)])))) : CL (model prog w) A E B env (.builtin "dict.setdefault") m [.ref d, .int k, dv] hp Q := fun s vs r hv => by
  obtain ⟨v, u, x, rfl, h1, h2, h3⟩ : ∃ u v x, vs = [u, v, x] ∧ VR s.heap (.ref d) u ∧ VR s.heap (.int k) v ∧ VR s.heap dv x := by
    simp only [VRs] at hv; obtain ⟨v, r, rfl, h1, u, r', rfl, h2, z, r'', rfl, h3, rfl⟩ := hv; exact ⟨_, _, _, rfl, h1, h2, h3⟩
  have hki := isInt_of h2
  simp only [VR] at h1; subst h1
  obtain ⟨ps, hD, hK⟩ := r.dict hd hL
  have hsys := r.notSys G (show (hp.set env.locals (.ns m)) d = some (.dict kvs) by rw [Hp.set_ne _ _ hL]; exact hd)
  refine wpAny_call_entry F.slot_dict_setdefault (hD prog w).typeIs F.entry_dict_setdefault ?_ (F.args_dict_setdefault_3 _ _ _)
  unfold Builtin.«dict.setdefault»
  refine wpAny_bind ?_
  unfold Builtin.Dict.keyAndDefault
  refine wpAny_bind (wpAny_notOrdered_dict (hD prog w).typeIs ?_)
  show wpAny _ _ (pure (d, u, some x)) _ _ s
  refine wpAny_pure ?_
  show wpAny _ _ (if (d == sysModules) = true then _ else (dictSetDefault d u x >>= _)) _ _ s
  rw [if_neg (by rw [hsys]; exact Bool.false_ne_true)]
  have hg := hK.get (k := k)
  refine wpAny_bind (setDefault_pairs (k := k) hki (hD prog w) (fun y hy => ?_) (fun hn h' hD' hs' => ?_) (by rw [hK.length]; have := sizeLine_eq; omega))
  · refine wpAny_pure ⟨_, rfl, ?_⟩
    cases e : dget kvs k with
    | none => rw [hg.2 e] at hy; cases hy
    | some z =>
      obtain ⟨z', hz', hzz⟩ := hg.1 z e
      rw [hz'] at hy; cases hy
      rw [e] at h
      exact ⟨z, hp, r.toks _, .refl _, hzz, h⟩
  · refine wpAny_pure ⟨_, rfl, ?_⟩
    cases e : dget kvs k with
    | some z => obtain ⟨z', hz', _⟩ := hg.1 z e; rw [hn] at hz'; cases hz'
    | none =>
      rw [e] at h
      have t := r.putDict (kvs' := kvs ++ [(k, dv)]) hd hL hD' hs' (fun le => KVR.append (h3.mono le) (hK.mono le)) (s.toks + 1)
      exact ⟨dv, _, t.1, t.2, h3.mono t.2, h⟩
end
end Mine

open PySem PySem.W PyProof.Rows PySem.Calls
set_option maxRecDepth 100000
namespace Mine
section
variable {prog : Program} {w : World} {A : Around} {E : Value → Shared → Prop} {B : Shared} {env : Env} {m : Loc} {hp : Hp} {K : Frag}
theorem EV_attrB {o : Expr} {name : PySem.Str} {pos} {T id gid : String} {Q : AV → Hp → Prop} (b : BndOk T name id gid)
    (hck : ∀ {A : Around} {a : Addr} {s : Shared} {o : Obj} {Q : Value → Shared → Prop}, s.heap.get? a = some o → o.cls = .type T → Q (.ref s.heap.objs.size) { s with heap := s.heap.push (bndOb id a) } → wpAny (model prog w) A (call (.builtin "method_descriptor.__get__") [.builtin id, .ref a, .type T]) Q (fun _ _ => False) s)
    (h : EV (model prog w) A E B env o m hp fun v hp₁ => ∃ a, v = .ref a ∧ (∀ s, Rel B (hp₁.set env.locals (.ns m)) s → ∃ ob, s.heap.get? a = some ob ∧ ob.cls = .type T ∧ ob.dict = none ∧ ∀ c, ob.data ≠ .cls c) ∧ ∀ x, hp₁ x = none → x ≠ env.locals → Q (.ref x) (hp₁.set x (.obj (bndOb id a))))
    (he : eval (.Attribute o name pos) env = (do
      let ov ← eval o env
      standAt pos.atName
      let r ← holding [ov] (getAttr ov name true)
      letTemporaryGo o ov r
      pure r) := by with_unfolding_all rfl) (ht : ∀ ov r, letTemporaryGo o ov r = pure () := by intro _ _; rfl) :
    EV (model prog w) A E B env (.Attribute o name pos) m hp Q := fun s r => by
  rw [he]
  refine wpAny_bind (h.use r fun v s₁ av hp₁ r₁ le₁ hv x => wpAny_bind (wpAny_standAt (wpAny_bind (wpAny_holding ?_))))
  obtain ⟨a, rfl, hty, q⟩ := x
  simp only [VR] at hv; subst hv
  obtain ⟨ob, ho, hcl, hdn, hn⟩ := hty s₁ r₁
  refine getAttr_bound b ho hcl hdn hn (fun ho hc h => hck ho hc h) ?_
  have n := r₁.newAt (bndOb id a) (.obj (bndOb id a)) ⟨Heap.get?_push_size _ rfl, bndOb_notImm⟩
  rw [ht]
  exact wpAny_bind (wpAny_pure (wpAny_pure ⟨.ref _, _, n.1.toks _, le₁.trans n.2.2.2, VR_ref, q _ n.2.1 n.2.2.1⟩))
theorem is_dict' {d : Addr} {kvs : List (Int × AV)} (hd : hp d = some (.dict kvs)) (hL : d ≠ env.locals) : ∀ s, Rel B (hp.set env.locals (.ns m)) s → ∃ ob, s.heap.get? d = some ob ∧ ob.cls = .type "dict" ∧ ob.dict = none ∧ ∀ c, ob.data ≠ .cls c := fun s r => by
  obtain ⟨ps, ⟨o, es, ep, ho, hc, hdt, _⟩, _⟩ := r.at hd hL
  exact ⟨o, ho, hc.1, hc.2.1, fun c => by rw [hdt]; simp⟩
theorem is_set' {d : Addr} {f : Int → Bool} {n : Nat} (hd : hp d = some (.set f n)) (hL : d ≠ env.locals) : ∀ s, Rel B (hp.set env.locals (.ns m)) s → ∃ ob, s.heap.get? d = some ob ∧ ob.cls = .type "set" ∧ ob.dict = none ∧ ∀ c, ob.data ≠ .cls c := fun s r => by
  obtain ⟨o, es, ep, t, ho, hc, hdt, _⟩ := r.at hd hL
  exact ⟨o, ho, hc.1, hc.2.1, fun c => by rw [hdt]; simp⟩
theorem callWith_bnd0 {M : Model} {s : Shared} {pos : Pos} {u a : Addr} {id : String} {args : List (Bool × Sem Value)} {Q : Value → Shared → Prop} (hplain : args.any (·.1) = false)
    (h : wpAny M A (evalArgs (.ref u) true args []) (fun x s₁ => s₁.heap.get? u = some (bndOb id a) ∧ wpAny M A (call (.ref u) ([] ++ x.pos) x.kw) Q E s₁) E s) : wpAny M A (callWith pos (.ref u) [] args []) Q E s := by
  unfold callWith
  refine wpAny_bind (wpAny_holding (wpAny_mono h (fun x s₁ h₁ => wpAny_bind (wpAny_standAt ?_)) fun _ _ x => x))
  obtain ⟨ho, hcall⟩ := h₁
  simp only [hplain, List.any_nil, Bool.or_false]
  refine wpAny_bind (m := keeperOf (.ref u)) ?_
  unfold keeperOf
  refine wpAny_bind (wpAny_load ho ?_)
  simp only [bndOb, show (Value.type "builtin_function_or_method" != Value.type "method") = true by decide, show (Value.type "builtin_function_or_method" == Value.type "builtin_function_or_method" || Value.type "builtin_function_or_method" == Value.type "method-wrapper") = true by decide, if_true]
  refine wpAny_pure ?_
  exact wpAny_bind (wpAny_mono hcall (fun r s₂ hr => wpAny_bind (wpAny_holding (wpAny_point (wpAny_pure hr)))) fun _ _ x => x)
theorem callWith_bnd {M : Model} {s : Shared} {pos : Pos} {u a : Addr} {id : String} {e : Expr} {rest : List Expr} {Q : Value → Shared → Prop}
    (h : wpAny M A (spliced (backTo pos (starEach (e :: rest) env))) (fun vs s₁ => s₁.heap.get? u = some (bndOb id a) ∧ wpAny M A (call (.ref u) vs) Q E s₁) E s)
    (he : starEach (e :: rest) env = (false, eval e env) :: starEach rest env) (hplain : (backTo pos (starEach rest env)).any (·.1) = false) :
    wpAny M A (callWith pos (.ref u) [] (backTo pos (starEach (e :: rest) env)) []) Q E s := by
  rw [he] at h ⊢
  refine callWith_bnd0 (id := id) (a := a) (by show (false || (backTo pos (starEach rest env)).any (·.1)) = false; rw [hplain]; rfl) ?_
  exact evalArgs_plain h
theorem EV_CallBnd {func e : Expr} {rest : List Expr} {pos} {id : String} {Q : AV → Hp → Prop}
    (h : EV (model prog w) A E B env func m hp fun v hp₁ => ∃ b a, v = .ref b ∧ b ≠ env.locals ∧ EVS (model prog w) A E B env (e :: rest) m hp₁ fun vs hp₂ => hp₂ b = some (.obj (bndOb id a)) ∧ CL (model prog w) A E B env (.ref b) m vs hp₂ Q)
    (hc : eval (.Call func (e :: rest) [] pos) env = (do callWith pos (← eval func env) [] (backTo pos (starEach (e :: rest) env)) (backToKw pos (keywordEach [] env))) := by rfl)
    (he : starEach (e :: rest) env = (false, eval e env) :: starEach rest env := by rfl) (hplain : (backTo pos (starEach rest env)).any (·.1) = false := by rfl) :
    EV (model prog w) A E B env (.Call func (e :: rest) [] pos) m hp Q := fun s r => by
  refine Call_ (h.use r fun u s₁ v hp₁ r₁ le₁ hu x => ?_) hc
  obtain ⟨b, a, rfl, hbL, q⟩ := x
  simp only [VR] at hu; subst hu
  refine callWith_bnd (id := id) (a := a) (wpAny_mono (q pos s₁ r₁) (fun vs s₂ ⟨avs, hp₂, r₂, le₂, hv, hb, q⟩ => ⟨(r₂.at hb hbL).1, ?_⟩) fun _ _ x => x) he hplain
  exact wpAny_mono (q s₂ vs r₂ hv) (fun v s₃ ⟨av, hp₃, r₃, le₃, hv, q⟩ => ⟨av, hp₃, r₃, (le₁.trans le₂).trans le₃, hv, q⟩) fun _ _ x => x
theorem call_bnd {s : Shared} {x a : Addr} {id : String} {bt : Builtin} {vs : List Value} {Q : Value → Shared → Prop} (ho : s.heap.get? x = some (bndOb id a)) (hq : (Code.builtin id ⟨.ref a :: vs, []⟩).quiet = true) (he : entryFor table id = some bt) (hpl : plainId id = true)
    (hck : ∀ (Q : Unit → Shared → Prop) (E : Value → Shared → Prop) (A : Around), Q () s → wpAny (model prog w) A (checkBoundCall id ⟨.ref a :: vs, []⟩) Q E s)
    (tree : wpAny (model prog w) A.in1 (bt ⟨.ref a :: vs, []⟩) (fun fin s' => ∃ v, fin = .done (.ret v) ∧ Q v s') E s) : wpAny (model prog w) A (call (.ref x) vs) Q E s := by
  refine wpAny_call (codeAny_of_tree ?_)
  show wpAny _ A.in1 (callAny (.ref x) ⟨vs, []⟩) _ _ s
  simp only [callAny]
  refine wpAny_bind (wpAny_load ho ?_)
  simp only [bndOb, show (Value.type "builtin_function_or_method" == Value.type "method" || Value.type "builtin_function_or_method" == Value.type "builtin_function_or_method" || Value.type "builtin_function_or_method" == Value.type "method-wrapper") = true by decide, if_true]
  refine KFB.if_so (by decide) ?_
  refine wpAny_bind (hck _ _ _ ?_)
  refine wpAny_bind (wpAny_pure (wpAny_pure ?_))
  refine ⟨hq, codeAny_builtin he ?_⟩
  rw [Around.under_plainId hpl]
  refine wpAny_mono tree (fun fin s' ⟨v, e, q⟩ => ?_) fun _ _ x => x
  subst e; exact q
theorem check_bnd {s : Shared} {a : Addr} {T id : String} {o : Obj} {sig : Manifest.Signature} {vs : List Value} {Q : Unit → Shared → Prop} (ho : s.heap.get? a = some o) (hcl : o.cls = .type T) (hn : ∀ c, o.data ≠ .cls c) (hsig : Manifest.signature? id = some sig) (hk : builtinKind id = some .method) (hva : Manifest.varargsMethods.contains id = false)
    (hmod : isSubtype (.type T) (.type "module") = pure false) (hr : sig.receiver = .self)
    (hf : (toString (Bind.lastOf T) ++ toString "." ++ toString (Bind.lastOf id) != "*") = true) (hs : (sig.short != "*") = true)
    (hchk : ∀ full short f2, Bind.check { sig with full := f2 } full short vs.length [] = pure ()) (h : Q () s) : wpAny (model prog w) A (checkBoundCall id ⟨.ref a :: vs, []⟩) Q E s := by
  have hT : s.TypeIs (.ref a) T := ⟨o, ho, hcl⟩
  unfold checkBoundCall
  simp only [hsig, hk]
  rw [if_neg (by decide)]
  refine wpAny_bind (wpAny_isInstance hT hmod ?_)
  rw [hva]
  simp only [Bool.or_false, Bool.false_eq_true, if_false]
  refine wpAny_bind ?_
  unfold isType loadHead
  refine wpAny_bind (wpAny_loadPart ho (wpAny_pure ?_))
  refine KFB.if_not ?_ ?_
  · cases e : o.data with
    | cls c => exact absurd e (hn c)
    | _ => rfl
  refine wpAny_bind (wpAny_typeOf hT ?_)
  dsimp only
  unfold Bind.checkArgs
  rw [hr]
  have hrn : (Manifest.Receiver.self == Manifest.Receiver.none) = false := by decide
  simp only [hrn, Bool.false_eq_true, if_false, List.map_nil, List.isEmpty_nil, List.head?_cons, List.length_cons, Nat.add_sub_cancel]
  have fin : wpAny (model prog w) A (do
      let a1 ← Bind.printed (toString (Bind.lastOf T) ++ toString "." ++ toString (Bind.lastOf id)) true { sig with full := toString (Bind.lastOf T) ++ toString "." ++ toString (Bind.lastOf id), receiver := .self } (some (.ref a))
      let a2 ← Bind.printed sig.short false { sig with full := toString (Bind.lastOf T) ++ toString "." ++ toString (Bind.lastOf id), receiver := .self } (some (.ref a))
      (Bind.check { sig with full := toString (Bind.lastOf T) ++ toString "." ++ toString (Bind.lastOf id), receiver := .self } a1 a2 vs.length []).onRaise fun _ => do
        if (toString (Bind.lastOf T) ++ toString "." ++ toString (Bind.lastOf id)) == "*" || sig.short == "*" then
          if let some r := some (Value.ref a) then discard <| typeName (← Bind.receiverType { sig with full := toString (Bind.lastOf T) ++ toString "." ++ toString (Bind.lastOf id), receiver := .self } r)
        if ← Bind.nameInDoubt { sig with full := toString (Bind.lastOf T) ++ toString "." ++ toString (Bind.lastOf id), receiver := .self } (some (.ref a)) then unsupported "bind:dotted-class-name-under-the-short-mark") Q E s := by
    refine wpAny_bind (printed_name hf (wpAny_bind (printed_name hs ?_)))
    have := hchk (toString (Bind.lastOf T) ++ toString "." ++ toString (Bind.lastOf id)) sig.short (toString (Bind.lastOf T) ++ toString "." ++ toString (Bind.lastOf id))
    rw [← hr]
    rw [this]
    exact wpAny_onRaise (wpAny_pure h)
  cases hm : sig.machinery with
  | _ => rw [hm] at fin; exact fin
theorem chk_one {full short f2 : String} : Bind.check ⟨.oneArg, f2, "__contains__", .self, [⟨"object", .posOnly, true⟩]⟩ full short 1 [] = pure () := by
  simp [Bind.check]
theorem CL_bget {b d : Addr} {kvs : List (Int × AV)} {k : Int} {dv : AV} {Q : AV → Hp → Prop} (G : Gnd K B) (hb : hp b = some (.obj (bndOb "dict.get" d))) (hbL : b ≠ env.locals) (hd : hp d = some (.dict kvs)) (hL : d ≠ env.locals) (h : Q ((dget kvs k).getD dv) hp) : CL (model prog w) A E B env (.ref b) m [.int k, dv] hp Q := fun s vs r hv => by
  obtain ⟨v, u, rfl, h1, h2⟩ := VRs_two hv
  have hki := isInt_of h1
  obtain ⟨ps, hD, hK⟩ := r.dict hd hL
  have hsys := r.notSys G (show (hp.set env.locals (.ns m)) d = some (.dict kvs) by rw [Hp.set_ne _ _ hL]; exact hd)
  obtain ⟨ob, ho, hcl, hdn, hn⟩ := is_dict' (m := m) hd hL s r
  refine call_bnd (r.at hb hbL).1 (Code.quiet_builtin _ (by decide +kernel)) F.entry_dict_get (by decide +kernel) (fun Q E A hq => check_bnd (sig := ⟨.positional, "dict.get", "get", .self, [⟨"key", .posOnly, true⟩, ⟨"default", .posOnly, false⟩]⟩) ho hcl hn (by kernel_rfl) (by kernel_rfl) (by decide +kernel) (by rw [isSubtype_type]; kernel_rfl) rfl (by decide +kernel) (by decide +kernel) (fun full short f2 => by first | rfl | kernel_rfl) hq) ?_
  show wpAny _ _ (dictGet d v >>= _) _ _ s
  refine wpAny_bind (wpAny_dictGet_of (knd := intKind prog w) (k := k) hki (hD prog w).mapOf ?_)
  have hg := hK.get (k := k)
  cases e : dget kvs k with
  | none =>
    rw [e] at h
    rw [hg.2 e]
    show wpAny _ _ (Builtin.Dict.missed d v >>= _) _ _ _
    exact wpAny_bind (wpAny_missed_other hsys (wpAny_pure ⟨u, rfl, dv, hp, r.toks _, .refl _, h2, h⟩))
  | some y =>
    rw [e] at h
    obtain ⟨z, hz, hyz⟩ := hg.1 y e
    rw [hz]
    exact wpAny_pure ⟨z, rfl, y, hp, r.toks _, .refl _, hyz, h⟩
theorem ISet.setOf {h : Heap} {a : Addr} {f : Int → Bool} {n : Nat} (x : ISet h a f n) : h.SetOf (intKind prog w) a f n := by
  obtain ⟨o, es, ep, t, h1, h2, h3, h4, h5, h6, h7, h8⟩ := x
  exact ⟨o, es, ep, t, h1, h2, h3, h4, h5, h6, h7, h8⟩
theorem contains_tree {s : Shared} {d : Addr} {f : Int → Bool} {n : Nat} {k : Int} {v : Value} {P : PySem.Fin → Shared → Prop} (hki : Value.isInt k v = true) (hsc : v.scannable = true) (hS : s.heap.SetOf (intKind prog w) d f n)
    (h : P (.done (.ret (.bool (f k)))) { s with toks := s.toks + 1 }) : wpAny (model prog w) A (Builtin.«frozenset.__contains__» ⟨[.ref d, v], []⟩) P E s := by
  unfold Builtin.«frozenset.__contains__» Builtin.Frozenset.oneOther
  simp only [List.isEmpty_nil, bind_assoc]
  unfold Builtin.Frozenset.addrOf Builtin.Frozenset.withSetAsKey setContains
  refine wpAny_bind (wpAny_pure ?_)
  try dsimp only
  refine wpAny_bind (wpAny_pure ?_)
  try dsimp only
  refine wpAny_bind (wpAny_tryCatch ?_)
  refine wpAny_holding ?_
  refine wpAny_bind ((intKind prog w).pyHash (k := k) hki ?_)
  refine wpAny_bind (wpAny_setFind_of (knd := intKind prog w) (k := k) (s := { s with toks := s.toks + 1 }) hki hsc hS fun rr hr => ?_)
  refine wpAny_pure ?_
  show wpAny _ _ (ret (Value.bool rr.isSome)) _ _ _
  rw [hr]
  exact wpAny_pure h
theorem sig_scont : Manifest.signature? "set.__contains__" = some ⟨.oneArg, "set.__contains__", "__contains__", .self, [⟨"object", .posOnly, true⟩]⟩ := by kernel_rfl
theorem kind_scont : builtinKind "set.__contains__" = some .method := by kernel_rfl
theorem va_scont : Manifest.varargsMethods.contains "set.__contains__" = false := by decide +kernel
theorem mod_set : isSubtype (.type "set") (.type "module") = pure false := by rw [isSubtype_type]; kernel_rfl
theorem nm_scont : (toString (Bind.lastOf "set") ++ toString "." ++ toString (Bind.lastOf "set.__contains__") != "*") = true := by decide +kernel
theorem check_scont {s : Shared} {a : Addr} {o : Obj} {v : Value} {Q : Unit → Shared → Prop} (ho : s.heap.get? a = some o) (hcl : o.cls = .type "set") (hn : ∀ c, o.data ≠ .cls c) (h : Q () s) : wpAny (model prog w) A (checkBoundCall "set.__contains__" ⟨.ref a :: [v], []⟩) Q E s := by
  have hs : (("__contains__" : String) != "*") = true := by decide
  have := @check_bnd prog w A E s a "set" "set.__contains__" o ⟨.oneArg, "set.__contains__", "__contains__", .self, [⟨"object", .posOnly, true⟩]⟩ [v] Q ho hcl hn sig_scont kind_scont va_scont mod_set rfl nm_scont hs (fun full short f2 => chk_one) h
  exact this
theorem CL_bin {b d : Addr} {f : Int → Bool} {n : Nat} {k : Int} {Q : AV → Hp → Prop} (hb : hp b = some (.obj (bndOb "set.__contains__" d))) (hbL : b ≠ env.locals) (hd : hp d = some (.set f n)) (hL : d ≠ env.locals) (h : Q (.bool (f k)) hp) : CL (model prog w) A E B env (.ref b) m [.int k] hp Q := fun s vs r hv => by
  obtain ⟨v, rfl, h1⟩ := VRs_one hv
  have hki := isInt_of h1
  have hsc : v.scannable = true := by simp only [VR] at h1; obtain ⟨t, rfl⟩ := h1; rfl
  have hS : s.heap.SetOf (intKind prog w) d f n := ISet.setOf (r.at hd hL)
  obtain ⟨ob, ho, hcl, hdn, hn⟩ := is_set' (m := m) hd hL s r
  refine call_bnd (r.at hb hbL).1 (Code.quiet_builtin _ (by decide +kernel)) entry_set_contains (by decide +kernel) (fun Q E A hq => check_scont ho hcl hn hq) ?_
  exact contains_tree hki hsc hS ⟨_, rfl, .bool (f k), hp, r.toks _, .refl _, VR_bool, h⟩
theorem EV_setE {func : Expr} {pos} {Q : AV → Hp → Prop}
    (h : EV (model prog w) A E B env func m hp fun f hp₁ => f = .ty "set" ∧ ∀ a, hp₁ a = none → a ≠ env.locals → Q (.ref a) (hp₁.set a (.set (fun _ => false) 0)))
    (hc : eval (.Call func [] [] pos) env = (do callWith pos (← eval func env) [] (backTo pos (starEach [] env)) (backToKw pos (keywordEach [] env))) := by rfl) : EV (model prog w) A E B env (.Call func [] [] pos) m hp Q := fun s r => by
  refine Call_ (h.use r fun u s₁ f hp₁ r₁ le₁ hu ⟨hf, q⟩ => ?_) hc
  subst hf; simp only [VR] at hu; subst hu
  refine PyProof.Rows.callWith_type0 (call_set_0 fun led => ?_)
  have n := r₁.newAt { cls := .type "set", dict := none, data := .set #[] 0 (.fresh 0 0 led) } (.set (fun _ => false) 0) ⟨_, #[], 0, _, Heap.get?_push_size _ rfl, ⟨rfl, rfl, rfl⟩, rfl, fun e he => by simp at he, fun k => by simp, by decide, by rfl, rfl⟩
  exact ⟨.ref _, _, n.1, le₁.trans n.2.2.2, VR_ref, q _ n.2.1 n.2.2.1⟩
end
end Mine

open PySem PySem.W PyProof.Rows PySem.Calls
set_option maxRecDepth 100000
namespace Mine
section
variable {prog : Program} {w : World} {A : Around} {E : Value → Shared → Prop} {B : Shared} {env : Env} {m : Loc} {hp : Hp} {K : Frag}
theorem EX_While {test : Expr} {body : List Stmt} {pos} {Q : AF → Loc → Hp → Prop} (I : Nat → Loc → Hp → Prop) (n : Nat) (h0 : I n m hp)
    (turn : ∀ n m₂ hp₂, I n m₂ hp₂ → TST (model prog w) A (fun _ _ => False) B env test m₂ hp₂ fun b hp₃ => if b then EXs (model prog w) A (fun _ _ => False) B env body m₂ hp₃ fun fl m₄ hp₄ =>
        match fl with | .next | .cont => ∃ n', n' < n ∧ I n' m₄ hp₄ | .brk => Q .next m₄ hp₄ | .ret v => Q (.ret v) m₄ hp₄
      else Q .next m₂ hp₃) : EX (model prog w) A E B env (.While test body [] pos) m hp Q := fun s r => by
  refine wpAny_While ?_
  refine codeAny_whileLoop (fun k s' => ∃ m₂ hp₂, I k m₂ hp₂ ∧ Rel B (hp₂.set env.locals (.ns m₂)) s' ∧ ImmLe s.heap s'.heap) (fun k s' x => ?_) n ⟨m, hp, h0, r, .refl _⟩
  obtain ⟨m₂, hp₂, hI, r', le⟩ := x
  refine wpAny_mono (turn k m₂ hp₂ hI s' r') (fun b s₂ ⟨hp₃, r₃, le₃, q⟩ => ?_) fun _ _ x => x.elim
  cases b with
  | false =>
    rw [if_neg Bool.false_ne_true] at q ⊢
    exact wpAny_execs_nil ⟨.next, m₂, hp₃, r₃, le.trans le₃, rfl, q⟩
  | true =>
    rw [if_pos rfl] at q ⊢
    refine wpAny_mono (q s₂ r₃) (fun fl s₄ ⟨af, m₄, hp₄, r₄, le₄, hf, q⟩ => ?_) fun _ _ x => x.elim
    have leA : ImmLe s.heap s₄.heap := (le.trans le₃).trans le₄
    cases af with
    | next => cases hf; obtain ⟨n', hn', q⟩ := q; exact ⟨n', hn', m₄, hp₄, q, r₄, leA⟩
    | cont => cases hf; obtain ⟨n', hn', q⟩ := q; exact ⟨n', hn', m₄, hp₄, q, r₄, leA⟩
    | brk => cases hf; exact ⟨.next, m₄, hp₄, r₄, leA, rfl, q⟩
    | ret v => obtain ⟨u, rfl, hu⟩ := hf; exact ⟨.ret v, m₄, hp₄, r₄, leA, ⟨u, rfl, hu⟩, q⟩
theorem Rel.two {s : Shared} (r : Rel B hp s) {e it : Addr} {oe oi oe' oi' : Obj} (he : hp e = some (.obj oe)) (hi : hp it = some (.obj oi)) (hne : e ≠ it) {h' : Heap} (hk : ∀ b o, b ≠ e → b ≠ it → s.heap.get? b = some o → h'.get? b = some o)
    (hsz : s.heap.objs.size ≤ h'.objs.size) (ge : h'.get? e = some oe') (gi : h'.get? it = some oi') (ne : ¬ Imm oe') (ni : ¬ Imm oi') (t : Nat) : Rel B ((hp.set it (.obj oi')).set e (.obj oe')) { s with heap := h', toks := t } ∧ ImmLe s.heap h' := by
  have le : ImmLe s.heap h' := fun b ob eq i => by
    by_cases h1 : b = e
    · subst h1; exact absurd i ((r.objs _ _ he).2.notImm _ eq)
    · by_cases h2 : b = it
      · subst h2; exact absurd i ((r.objs _ _ hi).2.notImm _ eq)
      · exact hk b ob h1 h2 eq
  refine ⟨⟨fun b ob eq => ?_, fun a o eq => ?_, r.os, r.bare, Nat.le_trans r.size hsz⟩, le⟩
  · refine hk b ob (fun h => ?_) (fun h => ?_) (r.keep b ob eq)
    · subst h; exact absurd (Heap.lt_size eq) (Nat.not_lt.mpr (r.objs _ _ he).1)
    · subst h; exact absurd (Heap.lt_size eq) (Nat.not_lt.mpr (r.objs _ _ hi).1)
  · by_cases h1 : a = e
    · subst h1; rw [Hp.set_same] at eq; cases eq; exact ⟨(r.objs _ _ he).1, ge, ne⟩
    · rw [Hp.set_ne _ _ h1] at eq
      by_cases h2 : a = it
      · subst h2; rw [Hp.set_same] at eq; cases eq; exact ⟨(r.objs _ _ hi).1, gi, ni⟩
      · rw [Hp.set_ne _ _ h2] at eq
        exact ⟨(r.objs a o eq).1, (r.objs a o eq).2.here le fun o' e' => hk _ _ h1 h2 e'⟩
theorem EX_ForEnum {elts : List Expr} {tk tpos} {func xe : Expr} {body : List Stmt} {cpos pos} {Q : AF → Loc → Hp → Prop} (hh : A.handled = none)
    (h : EV (model prog w) A E B env func m hp fun f hp₁ => f = .ty "enumerate" ∧ EVS (model prog w) A E B env [xe] m hp₁ fun vs hp₂ => ∃ a xs, vs = [.ref a] ∧ Lst B hp₂ env.locals a xs ∧ ∀ it en, hp₂ it = none → it ≠ env.locals → hp₂ en = none → en ≠ env.locals → en ≠ it →
      ∃ I : Nat → Loc → Hp → Prop, (∀ o1 o2, I 0 m ((hp₂.set it (.obj o1)).set en (.obj o2))) ∧ (∀ i m₂ hp₂ ob, I i m₂ hp₂ → I i m₂ (hp₂.set it (.obj ob))) ∧ (∀ i m₂ hp₂ ob, I i m₂ hp₂ → I i m₂ (hp₂.set en (.obj ob))) ∧ (∀ i m₂ hp₂, I i m₂ hp₂ → Lst B hp₂ env.locals a xs) ∧
      (∀ i x m₂ hp₂ o1 o2, xs[i]? = some x → I i m₂ hp₂ → hp₂ it = some (.obj o1) → hp₂ en = some (.obj o2) → ASG (model prog w) A (fun _ _ => False) B env (.Tuple elts tk tpos) (.tup [.int i, x]) m₂ hp₂ fun m₃ hp₃ => EXs (model prog w) A (fun _ _ => False) B env body m₃ hp₃ fun fl m₄ hp₄ =>
        match fl with | .next | .cont => I (i + 1) m₄ hp₄ ∧ hp₄ it = some (.obj o1) ∧ hp₄ en = some (.obj o2) | .brk => Q .next m₄ hp₄ | .ret v => Q (.ret v) m₄ hp₄) ∧
      (∀ m₂ hp₂, I xs.length m₂ hp₂ → Q .next m₂ (hp₂.del it)))
    (hc : eval (.Call func [xe] [] cpos) env = (do callWith cpos (← eval func env) [] (backTo cpos (starEach [xe] env)) (backToKw cpos (keywordEach [] env))) := by rfl)
    (he : starEach [xe] env = [(false, eval xe env)] := by rfl)
    (hs : ∀ x, foldedSetIterable (.Call func [xe] [] cpos) env x = pure x := by intro _; rfl) :
    EX (model prog w) A E B env (.For (.Tuple elts tk tpos) (.Call func [xe] [] cpos) body [] pos) m hp Q := fun s r => by
  refine wpAny_For (Call_ (h.use r fun u s₁ f hp₁ r₁ le₁ hu ⟨hf, q⟩ => ?_) hc) hs
  subst hf; simp only [VR] at hu; subst hu
  refine PyProof.Rows.callWith_type1 (wpAny_mono (q cpos s₁ r₁) (fun vs s₂ ⟨avs, hp₂, r₂, le₂, hv, q⟩ => ?_) fun _ _ x => x) he rfl
  obtain ⟨a, xs, rfl, hl, q⟩ := q
  obtain ⟨v, rfl, h1⟩ := VRs_one hv
  simp only [VR] at h1; subst h1
  obtain ⟨us, hlst, hus⟩ := r₂.lst hl
  refine call_enumerate_list hlst fun h' hen hit hz hk => ?_
  refine wpAny_pyIter_enum (s := { s₂ with heap := h' }) hen ?_
  have hne : ∀ o, (hp₂.set env.locals (.ns m)) s₂.heap.objs.size = some o → False := fun o e => absurd (r₂.lt e) (Nat.lt_irrefl _)
  have hne2 : ∀ o, (hp₂.set env.locals (.ns m)) (s₂.heap.objs.size + 1) = some o → False := fun o e => absurd (r₂.lt e) (Nat.not_lt.mpr (Nat.le_succ _))
  have n1 : s₂.heap.objs.size ≠ env.locals := fun e => hne _ (by rw [e, Hp.set_same])
  have n2 : s₂.heap.objs.size + 1 ≠ env.locals := fun e => hne2 _ (by rw [e, Hp.set_same])
  have f1 : hp₂ s₂.heap.objs.size = none := by
    cases e : hp₂ s₂.heap.objs.size with
    | none => rfl
    | some o => exact (hne o (by rw [Hp.set_ne _ _ n1]; exact e)).elim
  have f2 : hp₂ (s₂.heap.objs.size + 1) = none := by
    cases e : hp₂ (s₂.heap.objs.size + 1) with
    | none => rfl
    | some o => exact (hne2 o (by rw [Hp.set_ne _ _ n2]; exact e)).elim
  have hei : s₂.heap.objs.size + 1 ≠ s₂.heap.objs.size := Nat.succ_ne_self _
  obtain ⟨oi, gi, ci, di⟩ := hit
  have gr := r₂.grown hk s₂.toks
  generalize hit' : s₂.heap.objs.size = it at *
  generalize hen' : it + 1 = en at *
  obtain ⟨I, i0, iset, jset, ilst, iturn, ifin⟩ := q it en f1 n1 f2 n2 hei
  have rel0 : Rel B (((hp₂.set it (.obj oi)).set en (.obj { cls := .type "enumerate", data := .fields #[.none, .bool false, .ref it, rawInt 0, .none, .none] })).set env.locals (.ns m)) { s₂ with heap := h' } := by
    have g1 := gr.1
    refine ⟨g1.keep, fun z o e => ?_, g1.os, g1.bare, g1.size⟩
    by_cases hzL : z = env.locals
    · subst hzL; rw [Hp.set_same] at e; cases e; exact g1.objs _ _ (Hp.set_same ..)
    · rw [Hp.set_ne _ _ hzL] at e
      by_cases hze : z = en
      · subst hze; rw [Hp.set_same] at e; cases e
        exact ⟨by rw [← hen', ← hit']; exact Nat.le_trans r₂.size (Nat.le_succ _), hen, fun i => by obtain ⟨_, _, _, e⟩ := i; cases e⟩
      · rw [Hp.set_ne _ _ hze] at e
        by_cases hzi : z = it
        · subst hzi; rw [Hp.set_same] at e; cases e
          exact ⟨by rw [← hit']; exact r₂.size, gi, fun i => by obtain ⟨_, _, _, e⟩ := i; rw [di] at e; cases e⟩
        · rw [Hp.set_ne _ _ hzi] at e
          exact g1.objs z o (by rw [Hp.set_ne _ _ hzL]; exact e)
  refine codeAny_forLoop_any (fun k s' => ∃ i m₂ hp₂ o1 o2 old, k = xs.length - i ∧ i ≤ xs.length ∧ I i m₂ hp₂ ∧ hp₂ it = some (.obj o1) ∧ hp₂ en = some (.obj o2) ∧ s'.heap.IsListIter it a i ∧ IsEnum s'.heap en it ((i : Nat) : Int) old ∧ Rel B (hp₂.set env.locals (.ns m₂)) s' ∧ ImmLe s.heap s'.heap) (fun k s' x => ?_) xs.length
    ⟨0, m, _, oi, _, .none, rfl, Nat.zero_le _, i0 _ _, by rw [Hp.set_ne _ _ (Ne.symm hei), Hp.set_same], Hp.set_same .., ⟨oi, gi, ci, di⟩, hen, rel0, (le₁.trans le₂).trans gr.2⟩
  obtain ⟨i, m₂, hp₃, o1, o2, old, rfl, hi, hI, hp1, hp2, hit₂, hen₂, r', le⟩ := x
  obtain ⟨vs', hl', hvs'⟩ := r'.lst (ilst _ _ _ hI)
  by_cases hlt : i < xs.length
  · obtain ⟨v, hv, hxv⟩ := hvs'.get (i := i) (x := xs.getD i .none) (by simp [List.getD, List.getElem?_eq_getElem hlt])
    refine wpAny_pyNext_enum_item hen₂ hit₂ hl' (by simpa using hv) hei fun h₁ heo hit₁ ht₁ hz₁ hk₁ => ?_
    obtain ⟨oi', gi', ci', di'⟩ := hit₁
    have t1 := r'.two (e := en) (it := it) (by rw [Hp.set_ne _ _ n2]; exact hp2) (by rw [Hp.set_ne _ _ n1]; exact hp1) hei hk₁ (by rw [hz₁]; exact Nat.le_succ _) heo gi' (fun i => by obtain ⟨_, _, _, e⟩ := i; cases e) (fun i => by obtain ⟨_, _, _, e⟩ := i; rw [di'] at e; cases e) (s'.toks + 1)
    refine wpAny_letOwnedTupleGo_enum heo fun h₂ he₂ hs₂ => ?_
    have t2 := t1.1.turn (a := en) (Hp.set_same ..) hs₂ (.obj { cls := .type "enumerate", data := .fields #[.none, .bool false, .ref it, rawInt ((i : Int) + 1), .none, v] }) (fun _ => ⟨he₂, fun i => by obtain ⟨_, _, _, e⟩ := i; cases e⟩) (s'.toks + 1)
    rw [Hp.set_set, Hp.set_comm _ _ _ (Ne.symm n1), Hp.set_comm _ _ _ (Ne.symm n2)] at t2
    have leT := t1.2.trans t2.2
    have htup : h₂.get? s'.heap.objs.size = some { cls := .type "tuple", data := .seq #[.int i s'.toks, v] } := t2.2 _ _ ht₁ ⟨.inl rfl, _, _, rfl⟩
    have hturn := iturn i (xs.getD i .none) m₂ ((hp₃.set it (.obj oi')).set en (.obj { cls := .type "enumerate", data := .fields #[.none, .bool false, .ref it, rawInt ((i : Int) + 1), .none, v] })) oi' { cls := .type "enumerate", data := .fields #[.none, .bool false, .ref it, rawInt ((i : Int) + 1), .none, v] } (by simp [List.getD, List.getElem?_eq_getElem hlt]) (jset i m₂ _ _ (iset i m₂ hp₃ oi' hI)) (by rw [Hp.set_ne _ _ (Ne.symm hei), Hp.set_same]) (Hp.set_same ..)
    refine wpAny_mono (hturn _ (.ref s'.heap.objs.size) t2.1 ?_) (fun _ s₃ ⟨m₃, hp₄, r₃, le₃, q⟩ => ?_) fun _ _ x => x.elim
    · simp only [VR]
      refine ⟨_, #[.int i s'.toks, v], rfl, ⟨_, htup, rfl, 0, rfl⟩, ?_⟩
      simp only [VRs]
      exact ⟨_, _, rfl, VR_int, _, _, rfl, hxv.mono leT, rfl⟩
    · refine wpAny_mono (q s₃ r₃) (fun fl s₄ ⟨af, m₄, hp₅, r₄, le₄, hf, q⟩ => ?_) fun _ _ x => x.elim
      have leA : ImmLe s.heap s₄.heap := ((le.trans leT).trans le₃).trans le₄
      have fin : I (i + 1) m₄ hp₅ ∧ hp₅ it = some (.obj oi') ∧ hp₅ en = some (.obj { cls := .type "enumerate", data := .fields #[.none, .bool false, .ref it, rawInt ((i : Int) + 1), .none, v] }) → ∃ k', k' < xs.length - i ∧ ∃ i m₂ hp₂ o1 o2 old, k' = xs.length - i ∧ i ≤ xs.length ∧ I i m₂ hp₂ ∧ hp₂ it = some (.obj o1) ∧ hp₂ en = some (.obj o2) ∧ s₄.heap.IsListIter it a i ∧ IsEnum s₄.heap en it ((i : Nat) : Int) old ∧ Rel B (hp₂.set env.locals (.ns m₂)) s₄ ∧ ImmLe s.heap s₄.heap := fun ⟨q1, q2, q3⟩ =>
        ⟨xs.length - (i + 1), by omega, i + 1, m₄, hp₅, oi', _, v, rfl, hlt, q1, q2, q3, ⟨oi', (r₄.at q2 n1).1, ci', di'⟩, by
          have := (r₄.at q3 n2).1
          have e : ((i + 1 : Nat) : Int) = (i : Int) + 1 := by push_cast; rfl
          rw [e]; exact this, r₄, leA⟩
      cases af with
      | next => cases hf; exact fin q
      | cont => cases hf; exact fin q
      | brk => cases hf; exact ⟨.next, m₄, hp₅, r₄, leA, rfl, q⟩
      | ret v => obtain ⟨u, rfl, hu⟩ := hf; exact ⟨.ret v, m₄, hp₅, r₄, leA, ⟨u, rfl, hu⟩, q⟩
  · have hie : i = xs.length := by omega
    subst hie
    have hemp : vs'[xs.length]? = none := by
      have : vs'.size = xs.length := by rw [← Array.length_toList]; exact hvs'.length
      exact Array.getElem?_eq_none (by omega)
    refine wpAny_pyNext_enum_end hh hen₂ hit₂ hl' hemp fun h'' hx => ?_
    obtain ⟨r'', le''⟩ := r'.drop hp1 n1 hx s'.toks
    exact wpAny_execs_nil ⟨.next, m₂, _, r'', le.trans le'', rfl, ifin _ _ hI⟩
end
end Mine

open PySem PySem.W PyProof.Rows PySem.Calls
set_option maxRecDepth 100000
namespace Mine
def bindLA (kindOf : PySem.Str → Option NameKind) : List (PySem.Str × AV) → Loc → Loc
  | [], m => m
  | (n, v) :: r, m => bindLA kindOf r (if kindOf n = some .local then upd m n v else m)
def bindCA (kindOf : PySem.Str → Option NameKind) : List (PySem.Str × AV) → Loc → Loc
  | [], m => m
  | (n, v) :: r, m => bindCA kindOf r (if kindOf n = some .local then m else upd m n v)
def putCells (hp : Hp) (cs : List (PySem.Str × Addr)) (cm : Loc) : Hp := fun a => match cs.find? (fun x => decide (x.2 = a)) with | some x => some (.cell (cm x.1)) | none => hp a
theorem bindL_rel {h : Heap} {k : PySem.Str → Option NameKind} : ∀ {bs : List (PySem.Str × AV)} {us : List (PySem.Str × Value)} {m : Loc} {mv : PySem.Str → Option Value}, us.map (·.1) = bs.map (·.1) → VRs h (bs.map (·.2)) (us.map (·.2)) → LocR h m mv → LocR h (bindLA k bs m) (bindL k us mv)
  | [], us, m, mv, e, hv, x => by
    cases us with
    | nil => exact x
    | cons _ _ => simp at e
  | (n, v) :: bs, us, m, mv, e, hv, x => by
    cases us with
    | nil => simp at e
    | cons u us =>
      obtain ⟨n', u⟩ := u
      simp only [List.map_cons, List.cons.injEq, VRs] at e hv
      obtain ⟨rfl, e2⟩ := e
      obtain ⟨_, _, ⟨rfl, rfl⟩, h1, h2⟩ := hv
      unfold bindLA bindL
      refine bindL_rel e2 h2 ?_
      split
      · exact x.upd h1
      · exact x
theorem bindC_rel {h : Heap} {k : PySem.Str → Option NameKind} : ∀ {bs : List (PySem.Str × AV)} {us : List (PySem.Str × Value)} {m : Loc} {mv : PySem.Str → Option Value}, us.map (·.1) = bs.map (·.1) → VRs h (bs.map (·.2)) (us.map (·.2)) → LocR h m mv → LocR h (bindCA k bs m) (bindC k us mv)
  | [], us, m, mv, e, hv, x => by
    cases us with
    | nil => exact x
    | cons _ _ => simp at e
  | (n, v) :: bs, us, m, mv, e, hv, x => by
    cases us with
    | nil => simp at e
    | cons u us =>
      obtain ⟨n', u⟩ := u
      simp only [List.map_cons, List.cons.injEq, VRs] at e hv
      obtain ⟨rfl, e2⟩ := e
      obtain ⟨_, _, ⟨rfl, rfl⟩, h1, h2⟩ := hv
      unfold bindCA bindC
      refine bindC_rel e2 h2 ?_
      split
      · exact x
      · exact x.upd h1
section
variable {prog : Program} {w : World} {A : Around} {E : Value → Shared → Prop} {B : Shared} {env : Env} {m : Loc} {hp : Hp} {K : Frag}
theorem Rel.cell {s : Shared} (r : Rel B (hp.set env.locals (.ns m)) s) {c : Addr} {v : AV} (h : hp c = some (.cell (some v))) (hL : c ≠ env.locals) : ∃ u, s.heap.IsCell c (some u) ∧ VR s.heap v u := by
  obtain ⟨o, u, ho, hd, x, rfl, hx⟩ := r.at h hL
  exact ⟨x, ⟨o, ho, hd⟩, hx⟩
theorem EV_cell {x : PySem.Str} {pos} {c : Addr} {v : AV} {Q : AV → Hp → Prop} (hc : env.cells.lookup x = some c) (hv : hp c = some (.cell (some v))) (hcL : c ≠ env.locals) (h : Q v hp) (hk : env.scope.kind = .function := by rfl) (hl : env.kindOf x = some .cell := by rfl)
    (hd : (x == ("__debug__" : PySem.Str)) = false := by decide) : EV (model prog w) A E B env (.Name x pos) m hp Q := fun s r => by
  obtain ⟨u, hu, hvu⟩ := r.cell hv hcL
  exact wpAny_Name (wpAny_loadName_cell hk hl hc hu ⟨v, hp, r, .refl _, hvu, h⟩) hd
theorem store_cell {x : PySem.Str} {c : Addr} {v₀ : Option AV} {v : AV} {u : Value} {s : Shared} {W : Unit → Shared → Prop} (r : Rel B (hp.set env.locals (.ns m)) s) (hv : VR s.heap v u) (hc : env.cells.lookup x = some c) (hv₀ : hp c = some (.cell v₀)) (hcL : c ≠ env.locals)
    (k : ∀ s', Rel B ((hp.set c (.cell (some v))).set env.locals (.ns m)) s' → ImmLe s.heap s'.heap → W () s') (hk : env.scope.kind = .function := by rfl) (hl : env.kindOf x = some .cell := by rfl) : wpAny (model prog w) A (storeName env x u) W E s := by
  obtain ⟨o, u₀, ho, hd, _⟩ := r.at hv₀ hcL
  refine wpAny_storeName_cell hk hl hc ⟨o, ho, hd⟩ fun h' hc' hs' => ?_
  obtain ⟨o', ho', hd'⟩ := hc'
  have t := r.turn (a := c) (by rw [Hp.set_ne _ _ hcL]; exact hv₀) hs' (.cell (some v)) (fun le => ⟨o', _, ho', hd', u, rfl, hv.mono le⟩) s.toks
  rw [Hp.set_comm _ _ _ (Ne.symm hcL)] at t
  exact k _ t.1 t.2
theorem ASG_cell {x : PySem.Str} {pos} {c : Addr} {v₀ : Option AV} {v : AV} {Q : Loc → Hp → Prop} (hc : env.cells.lookup x = some c) (hv₀ : hp c = some (.cell v₀)) (hcL : c ≠ env.locals) (h : Q m (hp.set c (.cell (some v)))) (hk : env.scope.kind = .function := by rfl) (hl : env.kindOf x = some .cell := by rfl) :
    ASG (model prog w) A E B env (.Name x pos) v m hp Q := fun s u r hu =>
  PyProof.Rows.assign_Name (store_cell r hu hc hv₀ hcL (fun s' r' le => ⟨m, _, r', le, h⟩) hk hl)
theorem EX_AssignC {x : PySem.Str} {value : Expr} {pos pos'} {c : Addr} {Q : AF → Loc → Hp → Prop} (hc : env.cells.lookup x = some c) (hcL : c ≠ env.locals) (h : EV (model prog w) A E B env value m hp fun v hp' => ∃ v₀, hp' c = some (.cell v₀) ∧ Q .next m (hp'.set c (.cell (some v))))
    (hs : swapsWith value (some (.Name x pos')) pos.line env = pure false := by rfl) (hk : env.scope.kind = .function := by rfl) (hl : env.kindOf x = some .cell := by rfl) : EX (model prog w) A E B env (.Assign [.Name x pos'] value pos) m hp Q := fun s r =>
  wpAny_Assign_Name (h.use r fun u s₁ v hp₁ r₁ le₁ hu ⟨v₀, hv₀, q⟩ => store_cell r₁ hu hc hv₀ hcL (fun s' r' le => ⟨.next, m, _, r', le₁.trans le, rfl, q⟩) hk hl) hs
theorem CD_cells {f : Addr} {fd : FuncData} {body : List Stmt} {avs : List AV} {bs : List (PySem.Str × AV)} {Q : AV → Hp → Prop} (G : Gnd K B) (ho : K.lookup f = some ⟨.type "function", none, .func fd, #[]⟩) (hcd : codeIn K fd.code fd.qualname = true)
    (hbody : fd.body = .stmts body) (hroom : A.depth < recursionLimit) (hclo : fd.closure = [])
    (hbind : ∀ (s : Shared) vs, VRs s.heap avs vs → ∃ us : List (PySem.Str × Value), bindArgs fd ⟨vs, []⟩ = pure us ∧ us.map (·.1) = bs.map (·.1) ∧ VRs s.heap (bs.map (·.2)) (us.map (·.2)))
    (hkind : ∀ L, ∀ x ∈ bs, fd.scope.names.lookup x.1 = some .local ∨ (fd.scope.names.lookup x.1 = some .cell ∧ ((cellsFrom (L + 1) fd.scope.names []).lookup x.1).isSome = true))
    (h : ∀ L, hp L = none → L ≠ env.locals → (∀ n c, (n, c) ∈ cellsFrom (L + 1) fd.scope.names [] → hp c = none ∧ c ≠ env.locals ∧ c ≠ L) →
      EXs (model prog w) (A.deeper (callEnvC fd L f)) (fun _ _ => False) B (callEnvC fd L f) body (bindLA (callEnvC fd L f).kindOf bs fun _ => none) (putCells (hp.set env.locals (.ns m)) (cellsFrom (L + 1) fd.scope.names []) (bindCA (callEnvC fd L f).kindOf bs fun _ => none)) (RET L env m Q))
    (hnd : ∀ L, ∀ n c, (n, c) ∈ cellsFrom (L + 1) fd.scope.names [] → (cellsFrom (L + 1) fd.scope.names []).lookup n = some c)
    (hco : fd.scope.isCoroutine = false := by rfl) (hgen : fd.scope.isGenerator = false := by rfl) (hk : fd.scope.kind = .function := by rfl) :
    CD (model prog w) A E B env (.ref f) m avs hp Q := fun s vs r hv => by
  obtain ⟨us, hb, e1, e2⟩ := hbind s vs hv
  have hkd : ∀ x ∈ us, fd.scope.names.lookup x.1 = some .local ∨ (fd.scope.names.lookup x.1 = some .cell ∧ ((cellsFrom (s.heap.objs.size + 1) fd.scope.names []).lookup x.1).isSome = true) := fun x hx => by
    have : x.1 ∈ bs.map (·.1) := by rw [← e1]; exact List.mem_map_of_mem hx
    obtain ⟨y, hy, e⟩ := List.mem_map.mp this
    rw [← e]; exact hkind _ y hy
  refine codeAny_call_cells hroom (r.keep _ _ (G.X _ _ ho)) rfl (G.lim.keeps r.keep) (codeRec_of (G.X.keeps r.keep) hcd) hbody hb hclo hkd (fun s₁ x => ?_) hco hgen hk
  obtain ⟨⟨⟨h₁, tk₁, rfl⟩, xns, xk, xf⟩, xc, xa, xab⟩ := x
  have le : ImmLe s.heap h₁ := ImmLe.keep xk
  generalize hLL : s.heap.objs.size = L at *
  change h₁.Ns L _ at xns
  have fresh : ∀ a, L ≤ a → (hp.set env.locals (.ns m)) a = none := fun a ha => by
    cases e : (hp.set env.locals (.ns m)) a with
    | none => rfl
    | some o => exact absurd (r.lt e) (by rw [hLL]; exact Nat.not_lt.mpr ha)
  have fr2 : ∀ a, L ≤ a → hp a = none ∧ a ≠ env.locals := fun a ha => by
    have h1 := fresh a ha
    have h2 : a ≠ env.locals := fun e => by rw [e, Hp.set_same] at h1; cases h1
    exact ⟨by rw [Hp.set_ne _ _ h2] at h1; exact h1, h2⟩
  have hcs : ∀ n c, (n, c) ∈ cellsFrom (L + 1) fd.scope.names [] → hp c = none ∧ c ≠ env.locals ∧ c ≠ L := fun n c hm => by
    have := xab n c hm
    have hlt : L < c := this
    exact ⟨(fr2 c (Nat.le_of_lt hlt)).1, (fr2 c (Nat.le_of_lt hlt)).2, Nat.ne_of_gt hlt⟩
  have rel : Rel B ((putCells (hp.set env.locals (.ns m)) (cellsFrom (L + 1) fd.scope.names []) (bindCA (callEnvC fd L f).kindOf bs fun _ => none)).set (callEnvC fd L f).locals (.ns (bindLA (callEnvC fd L f).kindOf bs fun _ => none))) { s with heap := h₁, toks := tk₁ } := by
    refine ⟨fun b o e => xk _ _ (r.keep b o e), fun a o e => ?_, r.os, r.bare, ?_⟩
    · by_cases ha : a = L
      · subst ha
        rw [show (callEnvC fd a f).locals = a from rfl, Hp.set_same] at e
        cases e
        exact ⟨by rw [← hLL]; exact r.size, _, xns, bindL_rel e1 (e2.mono le) ⟨fun x v e => (by cases e), fun x _ => rfl⟩⟩
      · rw [show (callEnvC fd L f).locals = L from rfl, Hp.set_ne _ _ ha] at e
        unfold putCells at e
        cases hf : (cellsFrom (L + 1) fd.scope.names []).find? (fun x => decide (x.2 = a)) with
        | some x =>
          rw [hf] at e
          cases e
          have hmem := List.mem_of_find?_eq_some hf
          have hxa : x.2 = a := by have := List.find?_some hf; simpa using this
          obtain ⟨o', ho', hd'⟩ := xc x.1 a (by have := hnd L x.1 x.2 hmem; rw [hxa] at this; exact this)
          have hlt : L < x.2 := xab x.1 x.2 hmem
          refine ⟨by rw [← hxa]; exact Nat.le_trans r.size (by rw [hLL]; exact Nat.le_of_lt hlt), o', _, ho', hd', ?_⟩
          have hC := bindC_rel (k := (callEnvC fd L f).kindOf) (h := h₁) e1 (e2.mono le) (m := fun _ => none) (mv := fun _ => none) ⟨fun x v e => (by cases e), fun x _ => rfl⟩
          cases hcm : bindCA (callEnvC fd L f).kindOf bs (fun _ => none) x.1 with
          | none => exact hC.2 x.1 hcm
          | some v => obtain ⟨u, hu, hvu⟩ := hC.1 x.1 v hcm; exact ⟨u, hu, hvu⟩
        | none =>
          rw [hf] at e
          exact ⟨(r.objs a o e).1, (r.objs a o e).2.here le fun o'' e => xk _ _ e⟩
    · exact Nat.le_trans r.size (by rw [hLL]; exact Nat.le_of_lt xns.lt)
  refine wpAny_mono (h L (fr2 L (Nat.le_refl _)).1 (fr2 L (Nat.le_refl _)).2 hcs _ rel) (fun fl s' x => ?_) fun _ _ x => x.elim
  obtain ⟨af, m', hp', r', le', hf, hp₂, hsub, hn, q⟩ := x
  refine ⟨retOf af, hp₂, r'.sub fun a o e => ?_, le.trans le', retOf_VR hf, q⟩
  have hLe := (fr2 L (Nat.le_refl _)).2
  have haL : a ≠ L := fun e' => by subst e'; rw [Hp.set_ne _ _ hLe, hn] at e; cases e
  rw [show (callEnvC fd L f).locals = L from rfl, Hp.set_ne _ _ haL]
  exact hsub a o e
end
end Mine

open PySem PySem.W PyProof.Rows PySem.Calls
set_option maxRecDepth 100000
namespace Mine
abbrev PW := PySem.Challenge.pw_dm0058_08
abbrev KW (w : World) : Frag := KP PW w.params
abbrev mS (i : Nat) : Stmt := inS (topS PW 5) i
abbrev fdS (i : Nat) (name : String) (dflt : Value) (tok code : Nat) : FuncData := fnD (mS i) (S name) dflt .none tok (.str (S "cpy313.difflib") 194) none (.ref code) .none []
def fdInit : FuncData := fdS 1 "SequenceMatcher.__init__" (.ref 153) 416 159
def fdSeqs : FuncData := fdS 2 "SequenceMatcher.set_seqs" .none 426 166
def fdSeq1 : FuncData := fdS 3 "SequenceMatcher.set_seq1" .none 435 173
def fdSeq2 : FuncData := fdS 4 "SequenceMatcher.set_seq2" .none 444 180
def fdChain : FuncData := fdS 5 "SequenceMatcher.__chain_b" .none 0 187
def fdFlm : FuncData := fdS 6 "SequenceMatcher.find_longest_match" (.ref 189) 490 195
theorem kInit (w : World) : (KW w).lookup 160 = some ⟨.type "function", none, .func fdInit, #[]⟩ := rfl
theorem kSeqs (w : World) : (KW w).lookup 167 = some ⟨.type "function", none, .func fdSeqs, #[]⟩ := rfl
theorem kSeq1 (w : World) : (KW w).lookup 174 = some ⟨.type "function", none, .func fdSeq1, #[]⟩ := rfl
theorem kSeq2 (w : World) : (KW w).lookup 181 = some ⟨.type "function", none, .func fdSeq2, #[]⟩ := rfl
theorem kChain (w : World) : (KW w).lookup 188 = some ⟨.type "function", none, .func fdChain, #[]⟩ := rfl
theorem kFlm (w : World) : (KW w).lookup 196 = some ⟨.type "function", none, .func fdFlm, #[]⟩ := rfl
theorem clsS (w : World) : Cls (KW w) 242 := ⟨by kernel_rfl, by kernel_rfl, by kernel_rfl, by kernel_rfl, by kernel_rfl⟩
theorem makesS (w : World) : makesIn (KW w) 242 = true := by kernel_rfl
theorem noAttrs (w : World) : attrNames.all (fun n => findIn (KW w) (.ref 242) n == some none && takerIn (KW w) 242 n == some none) = true := by kernel_rfl
theorem noAttr (w : World) {n : PySem.Str} (h : n ∈ attrNames) : findIn (KW w) (.ref 242) n = some none := by
  have := List.all_eq_true.mp (noAttrs w) n h
  rw [Bool.and_eq_true] at this
  exact eq_of_beq this.1
theorem noTaker (w : World) {n : PySem.Str} (h : n ∈ attrNames) : takerIn (KW w) 242 n = some none := by
  have := List.all_eq_true.mp (noAttrs w) n h
  rw [Bool.and_eq_true] at this
  exact eq_of_beq this.2
theorem blt_set : bootBuiltins (PySem.Str.ofString "set") = some (.type "set") := by boot_fast
theorem blt_enum : bootBuiltins (PySem.Str.ofString "enumerate") = some (.type "enumerate") := by boot_fast
theorem blt_len : bootBuiltins (PySem.Str.ofString "len") = some (.builtin "len") := by boot_fast
theorem blt_range : bootBuiltins (PySem.Str.ofString "range") = some (.type "range") := by boot_fast
theorem blt_max : bootBuiltins (PySem.Str.ofString "max") = some (.builtin "max") := by boot_fast
theorem blt_min : bootBuiltins (PySem.Str.ofString "min") = some (.builtin "min") := by boot_fast
theorem no_set (w : World) : nsIn (KW w) mainGlobals (S "set") = some none := by kernel_rfl
theorem no_enum (w : World) : nsIn (KW w) mainGlobals (S "enumerate") = some none := by kernel_rfl
theorem no_len (w : World) : nsIn (KW w) mainGlobals (S "len") = some none := by kernel_rfl
theorem no_range (w : World) : nsIn (KW w) mainGlobals (S "range") = some none := by kernel_rfl
theorem no_max (w : World) : nsIn (KW w) mainGlobals (S "max") = some none := by kernel_rfl
theorem no_min (w : World) : nsIn (KW w) mainGlobals (S "min") = some none := by kernel_rfl
theorem g_SM (w : World) : nsIn (KW w) mainGlobals (S "SequenceMatcher") = some (some (.ref 242)) := by kernel_rfl
theorem g_Match (w : World) : nsIn (KW w) mainGlobals (S "Match") = some (some (.ref 135)) := by kernel_rfl
def fdPlaces : FuncData := fnD (topS PW 7) (S "_law_places") .none .none 0 (.str (S "law_dm0058_08") 575) none (.ref 250) .none []
theorem kPlaces (w : World) : (KW w).lookup 251 = some ⟨.type "function", none, .func fdPlaces, #[]⟩ := rfl
def fdLaw : FuncData := fnD (topS PW 8) (S "law") .none .none 0 (.str (S "law_dm0058_08") 575) none (.ref 255) .none []
theorem kLaw (w : World) : (KW w).lookup 256 = some ⟨.type "function", none, .func fdLaw, #[]⟩ := rfl
def fdMNew : FuncData := fnD (inS (topS PW 3) 4) (S "Match.__new__") .none .none 283 (.str (S "cpy313.difflib") 194) none (.ref 81) .none []
theorem kMNew (w : World) : (KW w).lookup 82 = some ⟨.type "function", none, .func fdMNew, #[]⟩ := rfl
theorem g_places (w : World) : nsIn (KW w) mainGlobals (S "_law_places") = some (some (.ref 251)) := by kernel_rfl
theorem VRs_three {h : Heap} {a b c : AV} {vs : List Value} (x : VRs h [a, b, c] vs) : ∃ u v w, vs = [u, v, w] ∧ VR h a u ∧ VR h b v ∧ VR h c w := by
  simp only [VRs] at x; obtain ⟨v, r, rfl, h1, u, r', rfl, h2, z, r'', rfl, h3, rfl⟩ := x; exact ⟨_, _, _, rfl, h1, h2, h3⟩
theorem VRs_four {h : Heap} {a b c d : AV} {vs : List Value} (x : VRs h [a, b, c, d] vs) : ∃ u v w z, vs = [u, v, w, z] ∧ VR h a u ∧ VR h b v ∧ VR h c w ∧ VR h d z := by
  simp only [VRs] at x; obtain ⟨v, r, rfl, h1, u, r', rfl, h2, z, r'', rfl, h3, y, r''', rfl, h4, rfl⟩ := x; exact ⟨_, _, _, _, rfl, h1, h2, h3, h4⟩
section
variable {w : World} {A : Around} {E : Value → Shared → Prop} {B : Shared} {env : Env} {m : Loc} {hp : Hp}
theorem EV_self {x dx : Addr} {ma : Loc} {name : PySem.Str} {u : AV} {p1 p2 : Pos} {Q : AV → Hp → Prop} (G : Gnd (KW w) B) (hm : m (S "self") = some (.ref x)) (I : Ins hp env.locals x dx 242 ma) (ha : ma name = some u) (h : Q u hp) (hin : name ∈ attrNames := by (unfold attrNames; first | exact .head _ | exact .tail _ (.head _) | exact .tail _ (.tail _ (.head _)) | exact .tail _ (.tail _ (.tail _ (.head _))) | exact .tail _ (.tail _ (.tail _ (.tail _ (.head _)))) | exact .tail _ (.tail _ (.tail _ (.tail _ (.tail _ (.head _))))) | exact .tail _ (.tail _ (.tail _ (.tail _ (.tail _ (.tail _ (.head _)))))) | exact .tail _ (.tail _ (.tail _ (.tail _ (.tail _ (.tail _ (.tail _ (.head _))))))) | exact .tail _ (.tail _ (.tail _ (.tail _ (.tail _ (.tail _ (.tail _ (.tail _ (.head _)))))))) | exact .tail _ (.tail _ (.tail _ (.tail _ (.tail _ (.tail _ (.tail _ (.tail _ (.tail _ (.head _))))))))))) (hu : ∀ n, u ≠ .bi n := by intro _ e; cases e)
    (hk : env.scope.kind = .function := by rfl) (hl : env.kindOf (S "self") = some .local := by rfl) : EV (model PW w) A E B env (.Attribute (.Name (S "self") p1) name p2) m hp Q :=
  EV_attr G (clsS w) (noAttr w hin) (EV_local hm ⟨x, dx, ma, u, rfl, I, ha, hu, h⟩ hk hl)
theorem ASG_self {x dx : Addr} {ma : Loc} {name : PySem.Str} {u : AV} {p1 p2 : Pos} {Q : Loc → Hp → Prop} (G : Gnd (KW w) B) (hm : m (S "self") = some (.ref x)) (I : Ins hp env.locals x dx 242 ma) (h : Q m (hp.set dx (.atr (upd ma name u)))) (hin : name ∈ attrNames := by (unfold attrNames; first | exact .head _ | exact .tail _ (.head _) | exact .tail _ (.tail _ (.head _)) | exact .tail _ (.tail _ (.tail _ (.head _))) | exact .tail _ (.tail _ (.tail _ (.tail _ (.head _)))) | exact .tail _ (.tail _ (.tail _ (.tail _ (.tail _ (.head _))))) | exact .tail _ (.tail _ (.tail _ (.tail _ (.tail _ (.tail _ (.head _)))))) | exact .tail _ (.tail _ (.tail _ (.tail _ (.tail _ (.tail _ (.tail _ (.head _))))))) | exact .tail _ (.tail _ (.tail _ (.tail _ (.tail _ (.tail _ (.tail _ (.tail _ (.head _)))))))) | exact .tail _ (.tail _ (.tail _ (.tail _ (.tail _ (.tail _ (.tail _ (.tail _ (.tail _ (.head _)))))))))))
    (hk : env.scope.kind = .function := by rfl) (hl : env.kindOf (S "self") = some .local := by rfl) : ASG (model PW w) A E B env (.Attribute (.Name (S "self") p1) name p2) u m hp Q :=
  ASG_attr G (clsS w) (noTaker w hin) hin (EV_local hm ⟨x, dx, ma, rfl, I, h⟩ hk hl)
end
def Hp.cut (hp : Hp) (L1 L2 : Addr) : Hp := fun z => if z = L1 ∨ z = L2 then none else hp z
theorem Hp.cut_eq {hp : Hp} {L1 L2 z : Addr} (h1 : z ≠ L1) (h2 : z ≠ L2) : hp.cut L1 L2 z = hp z := by simp [Hp.cut, h1, h2]
theorem ret_cut {env : Env} {m : Loc} {L : Addr} {Q : AV → Hp → Prop} {fl : AF} {m' : Loc} {hp' : Hp} (hl : hp' env.locals = some (.ns m)) (q : Q (retOf fl) (hp'.cut env.locals L)) : RET L env m Q fl m' hp' := by
  refine ⟨hp'.cut env.locals L, fun z o hz => ?_, by simp [Hp.cut], q⟩
  by_cases h1 : z = env.locals
  · subst h1; rw [Hp.set_same] at hz; rw [hl]; exact hz
  · rw [Hp.set_ne _ _ h1] at hz
    by_cases h2 : z = L
    · simp [Hp.cut, h2] at hz
    · rw [Hp.cut_eq h1 h2] at hz; exact hz
end Mine

open PySem PySem.W PyProof.Rows PySem.Calls
set_option maxRecDepth 100000
namespace Mine
def idxN (bs : List Int) (k : Int) : List Nat := (List.range bs.length).filter (fun i => bs[i]? == some k)
def idxs (bs : List Int) (k : Int) : List AV := (idxN bs k).map fun (i : Nat) => AV.int (i : Int)
theorem idxN_snoc (bs : List Int) (x k : Int) : idxN (bs ++ [x]) k = idxN bs k ++ (if x = k then [bs.length] else []) := by
  unfold idxN
  rw [List.length_append, List.length_singleton, List.range_succ, List.filter_append]
  congr 1
  · apply List.filter_congr
    intro i hi
    rw [List.mem_range] at hi
    rw [List.getElem?_append_left hi]
  · by_cases h : x = k
    · simp [h]
    · simp [h]
theorem idxs_snoc (bs : List Int) (x k : Int) : idxs (bs ++ [x]) k = idxs bs k ++ (if x = k then [.int bs.length] else []) := by
  unfold idxs; rw [idxN_snoc, List.map_append]; split <;> simp
theorem idxN_len (bs : List Int) (k : Int) : (idxN bs k).length ≤ bs.length := by
  unfold idxN; exact Nat.le_trans (List.length_filter_le _ _) (by simp)
structure B2J (hb hp : Hp) (L d : Addr) (kvs : List (Int × AV)) (bs : List Int) : Prop where
  di : hp d = some (.dict kvs)
  dL : d ≠ L
  no : ∀ k, dget kvs k = none → idxN bs k = []
  yes : ∀ k v, dget kvs k = some v → ∃ a, v = .ref a ∧ hp a = some (.list (idxs bs k)) ∧ a ≠ L ∧ hb a = none
  inj : ∀ k k' a, dget kvs k = some (.ref a) → dget kvs k' = some (.ref a) → k = k'
  len : kvs.length ≤ bs.length
theorem dget_snoc (kvs : List (Int × AV)) (k : Int) (v : AV) (k' : Int) (h : dget kvs k = none) : dget (kvs ++ [(k, v)]) k' = if k' = k then some v else dget kvs k' := by
  unfold dget at *
  rw [List.find?_append]
  by_cases e : k' = k
  · subst e
    have : kvs.find? (fun kv => decide (kv.1 = k')) = none := by
      cases hf : kvs.find? (fun kv => decide (kv.1 = k')) with
      | none => rfl
      | some x => rw [hf] at h; cases h
    rw [this]; simp
  · rw [if_neg e]
    cases hf : kvs.find? (fun kv => decide (kv.1 = k')) with
    | some x => rfl
    | none => simp [Ne.symm e]
section
variable {w : World} {A : Around} {E : Value → Shared → Prop} {B : Shared} {env : Env} {m : Loc} {hp hb : Hp}
theorem chain_turn {L it en d : Addr} {kvs : List (Int × AV)} {bs : List Int} {x : Int} {o1 o2 : Obj} {m : Loc} {tp : Pos} (G : Gnd (KW w) B) (hh : A.handled = none) (hd : m (S "b2j") = some (.ref d)) (R : B2J hb hp L d kvs bs) (hle : Hp.Le hb hp) (hbd0 : hb d = none) (hlen : bs.length ≤ 900)
    (h1 : hp it = some (.obj o1)) (h2 : hp en = some (.obj o2)) :
    ASG (model PW w) A (fun _ _ => False) B (callEnv fdChain L 188) (match (dBody (mS 5)).getD 2 (.Pass tp) with | .For t _ _ _ _ => t | _ => .Name (S "") tp) (.tup [.int bs.length, .int x]) m hp fun m₃ hp₃ => EXs (model PW w) A (fun _ _ => False) B (callEnv fdChain L 188) (match (dBody (mS 5)).getD 2 (.Pass tp) with | .For _ _ b _ _ => b | _ => []) m₃ hp₃ fun fl m₄ hp₄ =>
      fl = .next ∧ (∀ y, y ≠ "i" → y ≠ "elt" → y ≠ "indices" → m₄ (S y) = m (S y)) ∧ hp₄ it = some (.obj o1) ∧ hp₄ en = some (.obj o2) ∧ Hp.Le hb hp₄ ∧ ∃ kvs', B2J hb hp₄ L d kvs' (bs ++ [x]) := by
  conv => arg 6; whnf
  refine ASG_Tuple hh rfl rfl rfl (ASGS_cons (ASG_Name (ASGS_cons (ASG_Name (ASGS_nil ?_)))))
  conv => arg 6; whnf
  generalize hm1 : upd (upd m _ _) _ _ = m1
  have g1 : m1 (S "i") = some (.int bs.length) := by subst hm1; (first | assumption | (simp only [upd_get, String.reduceEq, if_true, if_false]; done) | (simp only [upd_get, String.reduceEq, if_true, if_false]; first | assumption | rfl))
  have g2 : m1 (S "elt") = some (.int x) := by subst hm1; (first | assumption | (simp only [upd_get, String.reduceEq, if_true, if_false]; done) | (simp only [upd_get, String.reduceEq, if_true, if_false]; first | assumption | rfl))
  have g3 : m1 (S "b2j") = some (.ref d) := by subst hm1; (first | assumption | (simp only [upd_get, String.reduceEq, if_true, if_false]; done) | (simp only [upd_get, String.reduceEq, if_true, if_false]; first | assumption | rfl))
  have g4 : ∀ y, y ≠ "i" → y ≠ "elt" → y ≠ "indices" → m1 (S y) = m (S y) := fun y a b c => by subst hm1; simp only [upd_get, a, b, if_false]
  clear hm1
  have hidl : (idxs bs x).length ≤ 900 := by unfold idxs; rw [List.length_map]; exact Nat.le_trans (idxN_len _ _) hlen
  have hlk := R.len
  refine EXs_cons (EX_Assign (EV_bmeth F.slot_dict_setdefault F.type_dict_setdefault F.plainAttrs_dict (EV_local g3 ⟨d, rfl, is_dict R.di R.dL, EVS_cons (EV_local g2 (EVS_cons (EV_List (EVS_nil ⟨sz rfl, fun e he heL => EVS_nil ?_⟩))))⟩)))
  have hde : d ≠ e := Hp.ne_of R.di he
  have hdi : (hp.set e (.list [])) d = some (.dict kvs) := by rw [Hp.set_ne _ _ hde]; exact R.di
  have hebn : hb e = none := hle.none he
  have hie : it ≠ e := Hp.ne_of h1 he
  have hne : en ≠ e := Hp.ne_of h2 he
  have hid : it ≠ d := fun h => by rw [h, R.di] at h1; cases h1
  have hnd : en ≠ d := fun h => by rw [h, R.di] at h2; cases h2
  refine CL_dsetdefault G hdi R.dL (by omega) ?_
  cases hg : dget kvs x with
  | none =>
    rw [show ((none : Option AV).isSome) = false from rfl, if_neg Bool.false_ne_true]
    have hld : ((hp.set e (.list [])).set d (.dict (kvs ++ [(x, .ref e)]))) e = some (.list []) := by rw [Hp.set_ne _ _ (Ne.symm hde), Hp.set_same]
    refine EXs_cons (EX_Expr (EV_append (EV_local (v := .ref e) (by show upd m1 (S "indices") ((none : Option AV).getD (.ref e)) (S "indices") = _; simp only [upd_get, if_true]; rfl) ⟨e, _, rfl, hld, heL, ?_⟩)))
    refine EVS_cons (EV_local (v := .int bs.length) (by (first | assumption | (simp only [upd_get, String.reduceEq, if_true, if_false]; done) | (simp only [upd_get, String.reduceEq, if_true, if_false]; first | assumption | rfl))) (EVS_nil ⟨_, _, rfl, hld, sz rfl, by simp, by simp, by simp, ?_⟩))
    refine EXs_nil ⟨rfl, fun y a b c => by simp only [upd_get, c, if_false]; exact g4 y a b c, ?_, ?_, ?_, kvs ++ [(x, .ref e)], ?_⟩
    · rw [Hp.set_ne _ _ hie, Hp.set_ne _ _ hid, Hp.set_ne _ _ hie]; exact h1
    · rw [Hp.set_ne _ _ hne, Hp.set_ne _ _ hnd, Hp.set_ne _ _ hne]; exact h2
    · have hbd : hb d = none := hbd0
      exact ((hle.set hebn _).set hbd _).set hebn _
    · have hne0 := R.no x hg
      refine ⟨by rw [Hp.set_ne _ _ hde, Hp.set_same], R.dL, fun k hk => ?_, fun k v hk => ?_, fun k k' a hk hk' => ?_, by simp; omega⟩
      · rw [dget_snoc _ _ _ _ hg] at hk
        by_cases e' : k = x
        · rw [if_pos e'] at hk; cases hk
        · rw [if_neg e'] at hk
          rw [idxN_snoc, R.no k hk, if_neg (Ne.symm e')]; rfl
      · rw [dget_snoc _ _ _ _ hg] at hk
        by_cases e' : k = x
        · rw [if_pos e'] at hk; cases hk
          refine ⟨e, rfl, ?_, heL, hebn⟩
          rw [Hp.set_same, e', idxs_snoc, if_pos rfl]
          unfold idxs; rw [hne0]; rfl
        · rw [if_neg e'] at hk
          obtain ⟨a, rfl, ha, haL, hba⟩ := R.yes k v hk
          have hae : a ≠ e := Hp.ne_of ha he
          have had : a ≠ d := fun h => by rw [h, R.di] at ha; cases ha
          refine ⟨a, rfl, ?_, haL, hba⟩
          rw [Hp.set_ne _ _ hae, Hp.set_ne _ _ had, Hp.set_ne _ _ hae, ha, idxs_snoc, if_neg (Ne.symm e')]; simp
      · rw [dget_snoc _ _ _ _ hg] at hk hk'
        by_cases e1 : k = x
        · by_cases e2 : k' = x
          · rw [e1, e2]
          · rw [if_pos e1] at hk; rw [if_neg e2] at hk'
            cases hk
            obtain ⟨a', ea, ha, _⟩ := R.yes k' _ hk'
            cases ea
            rw [he] at ha; cases ha
        · rw [if_neg e1] at hk
          by_cases e2 : k' = x
          · rw [if_pos e2] at hk'
            cases hk'
            obtain ⟨a', ea, ha, _⟩ := R.yes k _ hk
            cases ea
            rw [he] at ha; cases ha
          · rw [if_neg e2] at hk'
            exact R.inj k k' a hk hk'
  | some v =>
    obtain ⟨a, rfl, ha, haL, hba⟩ := R.yes x v hg
    rw [show ((some (AV.ref a)).isSome) = true from rfl, if_pos rfl]
    have hae : a ≠ e := Hp.ne_of ha he
    have had : a ≠ d := fun h => by rw [h, R.di] at ha; cases ha
    have hia : it ≠ a := fun h => by rw [h, ha] at h1; cases h1
    have hna : en ≠ a := fun h => by rw [h, ha] at h2; cases h2
    have hld : (hp.set e (.list [])) a = some (.list (idxs bs x)) := by rw [Hp.set_ne _ _ hae]; exact ha
    refine EXs_cons (EX_Expr (EV_append (EV_local (v := .ref a) (by show upd m1 (S "indices") ((some (AV.ref a)).getD (.ref e)) (S "indices") = _; simp only [upd_get, if_true]; rfl) ⟨a, _, rfl, hld, haL, ?_⟩)))
    refine EVS_cons (EV_local (v := .int bs.length) (by (first | assumption | (simp only [upd_get, String.reduceEq, if_true, if_false]; done) | (simp only [upd_get, String.reduceEq, if_true, if_false]; first | assumption | rfl))) (EVS_nil ⟨_, _, rfl, hld, sz' (by omega), by simp, by simp, by simp, ?_⟩))
    refine EXs_nil ⟨rfl, fun y a b c => by simp only [upd_get, c, if_false]; exact g4 y a b c, ?_, ?_, ?_, kvs, ?_⟩
    · rw [Hp.set_ne _ _ hia, Hp.set_ne _ _ hie]; exact h1
    · rw [Hp.set_ne _ _ hna, Hp.set_ne _ _ hne]; exact h2
    · exact (hle.set hebn _).set hba _
    · refine ⟨by rw [Hp.set_ne _ _ (Ne.symm had)]; exact hdi, R.dL, fun k hk => ?_, fun k v hk => ?_, R.inj, by simp; omega⟩
      · have e' : k ≠ x := fun e => by rw [e, hg] at hk; cases hk
        rw [idxN_snoc, R.no k hk, if_neg (Ne.symm e')]; rfl
      · by_cases e' : k = x
        · subst e'
          rw [hg] at hk; cases hk
          refine ⟨a, rfl, ?_, haL, hba⟩
          rw [Hp.set_same, idxs_snoc, if_pos rfl]
        · obtain ⟨c, rfl, hc, hcL, hbc⟩ := R.yes k v hk
          have hca : c ≠ a := fun h => e' (by rw [h] at hk; exact R.inj k x a hk hg)
          have hce : c ≠ e := Hp.ne_of hc he
          refine ⟨c, rfl, ?_, hcL, hbc⟩
          rw [Hp.set_ne _ _ hca, Hp.set_ne _ _ hce, hc, idxs_snoc, if_neg (Ne.symm e')]; simp
end
end Mine

open PySem PySem.W PyProof.Rows PySem.Calls
set_option maxRecDepth 100000
namespace Mine
def hp0 : Hp := fun _ => none
theorem B2J.move {hb hp hp' : Hp} {L L' d : Addr} {kvs : List (Int × AV)} {bs : List Int} (R : B2J hb hp L d kvs bs) (h : ∀ z o, hb z = none → hp z = some o → (∀ m, o ≠ .ns m) → z ≠ L → hp' z = some o ∧ z ≠ L') (hd : hb d = none) : B2J hp0 hp' L' d kvs bs :=
  ⟨(h d _ hd R.di (by simp) R.dL).1, (h d _ hd R.di (by simp) R.dL).2, R.no, fun k v hk => by
    obtain ⟨a, e, ha, haL, hba⟩ := R.yes k v hk
    exact ⟨a, e, (h a _ hba ha (by simp) haL).1, (h a _ hba ha (by simp) haL).2, rfl⟩, R.inj, R.len⟩
theorem B2J.le {hp hp' : Hp} {L d : Addr} {kvs : List (Int × AV)} {bs : List Int} (R : B2J hp0 hp L d kvs bs) (le : Hp.Le hp hp') : B2J hp0 hp' L d kvs bs := R.move (fun _ _ _ h1 _ h2 => ⟨le _ _ h1, h2⟩) rfl
theorem B2J.call {hp : Hp} {L L' d : Addr} {kvs : List (Int × AV)} {bs : List Int} {m : Loc} (R : B2J hp0 hp L d kvs bs) (h : hp L' = none) : B2J hp0 (hp.set L (.ns m)) L' d kvs bs := R.move (fun _ _ _ h1 _ h2 => ⟨by rw [Hp.set_ne _ _ h2]; exact h1, Hp.ne_of h1 h⟩) rfl
section
variable {w : World} {A : Around} {E : Value → Shared → Prop} {B : Shared} {env : Env} {m : Loc} {hp : Hp}
theorem CL_chain {x dx bA : Addr} {ma : Loc} {bs : List Int} {aj : Bool} {Q : AV → Hp → Prop} (G : Gnd (KW w) B) (hh : A.handled = none) (hroom : A.depth < recursionLimit) (I : Ins hp env.locals x dx 242 ma) (hb : ma (S "b") = some (.ref bA)) (hl : Lst B hp env.locals bA (bs.map .int))
    (hj : ma (S "isjunk") = some .none) (ha : ma (S "autojunk") = some (.bool aj)) (hn : aj = false ∨ bs.length < 200) (hlen : bs.length ≤ 900)
    (h : ∀ hp' d j p kvs, Ins hp' env.locals x dx 242 (upd (upd (upd ma (S "b2j") (.ref d)) (S "bjunk") (.ref j)) (S "bpopular") (.ref p)) → B2J hp0 hp' env.locals d kvs bs → hp' j = some (.set (fun _ => false) 0) → j ≠ env.locals → (∀ z o, z ≠ dx → z ≠ env.locals → hp z = some o → hp' z = some o) → hp' env.locals = none → Q .none hp') :
    CL (model PW w) A E B env (.ref 188) m [.ref x] hp Q := by
  refine CD.cl (CD_fn (bs := [(S "self", .ref x)]) (body := dBody (mS 5)) G (kChain w) (by kernel_rfl) rfl hroom (fun s vs hv _ => ?_) (by kernel_rfl) (by decide) (fun L hL hLe => ?_))
  · obtain ⟨v, rfl, h1⟩ := VRs_one hv
    exact ⟨[(S "self", v)], BindsTo.of_eq rfl, rfl, VRs.one h1⟩
  · have hl' : Lst B (hp.set env.locals (.ns m)) L bA (bs.map .int) := hl.call hL
    have I' : Ins (hp.set env.locals (.ns m)) L x dx 242 ma := I.call hL
    have g0 : locOf [(S "self", AV.ref x)] (S "self") = some (.ref x) := by simp only [locOf_get, if_true]
    generalize hm0 : locOf [(S "self", AV.ref x)] = m0 at *
    have hLc : (hp.set env.locals (.ns m)) L = none := by rw [Hp.set_ne _ _ hLe]; exact hL
    have hcl : (hp.set env.locals (.ns m)) env.locals = some (.ns m) := Hp.set_same ..
    have hback : ∀ z o, z ≠ env.locals → hp z = some o → (hp.set env.locals (.ns m)) z = some o := fun z o hz e => by rw [Hp.set_ne _ _ hz]; exact e
    generalize hp.set env.locals (.ns m) = hpc at *
    conv => arg 6; whnf
    have hdl : ∀ ys, hpc dx ≠ some (.list ys) := fun ys e => by rw [I'.at_] at e; cases e
    have hdE : dx ≠ env.locals := I.dL
    refine EXs_cons (EX_Assign (EV_self G g0 I' hb ?_))
    refine EXs_cons (EX_Assign2 (EV_dictE fun d hd hdL => ASG_self G (by (first | assumption | (simp only [upd_get, String.reduceEq, if_true, if_false]; done) | (simp only [upd_get, String.reduceEq, if_true, if_false]; first | assumption | rfl))) (I'.le ((Hp.Le.refl _).set hd _)) (ASG_Name ?_)))
    have hddx : d ≠ dx := Ne.symm (Hp.ne_of I'.at_ hd)
    have e1 : (hpc.set d (.dict [])).set dx (.atr (upd ma (S "b2j") (.ref d))) = (hpc.set dx (.atr (upd ma (S "b2j") (.ref d)))).set d (.dict []) := Hp.set_comm _ _ _ hddx
    rw [e1]
    have I1 : Ins (hpc.set dx (.atr (upd ma (S "b2j") (.ref d)))) L x dx 242 (upd ma (S "b2j") (.ref d)) := I'.put
    have hl1 : Lst B (hpc.set dx (.atr (upd ma (S "b2j") (.ref d)))) L bA (bs.map .int) := hl'.put hdl
    have hbd : (hpc.set dx (.atr (upd ma (S "b2j") (.ref d)))) d = none := by rw [Hp.set_ne _ _ hddx]; exact hd
    have hle0 : Hp.Le (hpc.del dx) (hpc.set dx (.atr (upd ma (S "b2j") (.ref d)))) := fun z o e => by
      have hz : z ≠ dx := fun h => by subst h; simp [Hp.del] at e
      rw [Hp.del_ne _ hz] at e; rw [Hp.set_ne _ _ hz]; exact e
    have hbn : ∀ z, (hpc.set dx (.atr (upd ma (S "b2j") (.ref d)))) z = none → z ≠ dx ∧ z ≠ env.locals := fun z hz => ⟨fun e => (by rw [e, Hp.set_same] at hz; cases hz), fun e => (by rw [e, Hp.set_ne _ _ (Ne.symm hdE), hcl] at hz; cases hz)⟩
    generalize hpc.set dx (.atr (upd ma (S "b2j") (.ref d))) = hb1 at *
    refine EXs_seq (fun m' hp' => m' (S "self") = some (.ref x) ∧ m' (S "b") = some (.ref bA) ∧ Hp.Le hb1 hp' ∧ ∃ kvs, B2J hb1 hp' L d kvs bs) ?_ ?_
    · refine EX_ForEnum hh (EV_blt G (no_enum w) blt_enum (by decide) (fun _ => VR_ty) ⟨rfl, EVS_cons (EV_local (v := .ref bA) (by (first | assumption | (simp only [upd_get, String.reduceEq, if_true, if_false]; done) | (simp only [upd_get, String.reduceEq, if_true, if_false]; first | assumption | rfl))) (EVS_nil ⟨bA, bs.map .int, rfl, hl1.le ((Hp.Le.refl _).set hbd _), fun it en hit hitL hen henL hne => ?_⟩))⟩)
      have hib : hb1 it = none := ((Hp.Le.refl hb1).set hbd _).none hit
      have heb : hb1 en = none := ((Hp.Le.refl hb1).set hbd _).none hen
      have hdi : d ≠ it := Hp.ne_of (Hp.set_same ..) hit
      have hden : d ≠ en := Hp.ne_of (Hp.set_same ..) hen
      refine ⟨fun i m₂ hp₂ => m₂ (S "self") = some (.ref x) ∧ m₂ (S "b") = some (.ref bA) ∧ m₂ (S "b2j") = some (.ref d) ∧ Hp.Le hb1 hp₂ ∧ ∃ kvs, B2J hb1 hp₂ L d kvs (bs.take i) ∧ (∀ k v, dget kvs k = some v → v ≠ .ref it ∧ v ≠ .ref en), fun o1 o2 => ?_, fun i m₂ hp₂ ob x => ?_, fun i m₂ hp₂ ob x => ?_, fun i m₂ hp₂ x => hl1.le x.2.2.2.1, fun i y m₂ hp₂ o1 o2 hy x h1 h2 => ?_, fun m₂ hp₂ x => ?_⟩
      · refine ⟨by (first | assumption | (simp only [upd_get, String.reduceEq, if_true, if_false]; done) | (simp only [upd_get, String.reduceEq, if_true, if_false]; first | assumption | rfl)), by (first | assumption | (simp only [upd_get, String.reduceEq, if_true, if_false]; done) | (simp only [upd_get, String.reduceEq, if_true, if_false]; first | assumption | rfl)), by (first | assumption | (simp only [upd_get, String.reduceEq, if_true, if_false]; done) | (simp only [upd_get, String.reduceEq, if_true, if_false]; first | assumption | rfl)), (((Hp.Le.refl _).set hbd _).set hib _).set heb _, [], ⟨?_, hdL, fun k _ => rfl, fun k v hk => (by cases hk), fun k k' a hk => (by cases hk), Nat.le_refl _⟩, fun k v hk => (by cases hk)⟩
        rw [Hp.set_ne _ _ hden, Hp.set_ne _ _ hdi, Hp.set_same]
      · obtain ⟨x1, x2, x3, x4, kvs, R, hne'⟩ := x
        refine ⟨x1, x2, x3, x4.set hib _, kvs, ⟨by rw [Hp.set_ne _ _ hdi]; exact R.di, R.dL, R.no, fun k v hk => ?_, R.inj, R.len⟩, hne'⟩
        obtain ⟨a, rfl, ha, haL, hba⟩ := R.yes k v hk
        exact ⟨a, rfl, by rw [Hp.set_ne _ _ (fun e => (hne' k _ hk).1 (by rw [e]))]; exact ha, haL, hba⟩
      · obtain ⟨x1, x2, x3, x4, kvs, R, hne'⟩ := x
        refine ⟨x1, x2, x3, x4.set heb _, kvs, ⟨by rw [Hp.set_ne _ _ hden]; exact R.di, R.dL, R.no, fun k v hk => ?_, R.inj, R.len⟩, hne'⟩
        obtain ⟨a, rfl, ha, haL, hba⟩ := R.yes k v hk
        exact ⟨a, rfl, by rw [Hp.set_ne _ _ (fun e => (hne' k _ hk).2 (by rw [e]))]; exact ha, haL, hba⟩
      · obtain ⟨x1, x2, x3, x4, kvs, R, hne'⟩ := x
        obtain ⟨v, hbk, rfl⟩ : ∃ v, bs[i]? = some v ∧ AV.int v = y := by
          rw [List.getElem?_map] at hy
          exact Option.map_eq_some_iff.mp hy
        have hil : i < bs.length := (List.getElem?_eq_some_iff.mp hbk).1
        have hti : (bs.take i).length = i := by rw [List.length_take]; omega
        have := chain_turn (A := A.deeper (callEnv fdChain L 188)) (x := v) (tp := ⟨0, 0, 0, 0⟩) G hh x3 R x4 hbd (by omega) h1 h2
        rw [hti] at this
        refine ASG.mono this fun m' hp' hx => hx.mono fun f m4 hp4 hq => ?_
        obtain ⟨rfl, hmm, q1, q2, q3, kvs', R'⟩ := hq
        have etake : bs.take (i + 1) = bs.take i ++ [v] := by rw [List.take_add_one, hbk]; rfl
        refine ⟨⟨by rw [hmm _ (by decide) (by decide) (by decide)]; exact x1, by rw [hmm _ (by decide) (by decide) (by decide)]; exact x2, by rw [hmm _ (by decide) (by decide) (by decide)]; exact x3, q3, kvs', by rw [etake]; exact R', fun k u hk => ?_⟩, q1, q2⟩
        obtain ⟨a, rfl, ha, _, _⟩ := R'.yes k u hk
        exact ⟨fun e => (by cases e; rw [q1] at ha; cases ha), fun e => (by cases e; rw [q2] at ha; cases ha)⟩
      · obtain ⟨x1, x2, x3, x4, kvs, R, hne'⟩ := x
        rw [List.length_map, List.take_length] at R
        refine ⟨rfl, x1, x2, x4.del hib, kvs, ⟨by rw [Hp.del_ne _ hdi]; exact R.di, R.dL, R.no, fun k v hk => ?_, R.inj, R.len⟩⟩
        obtain ⟨a, rfl, ha, haL, hba⟩ := R.yes k v hk
        exact ⟨a, rfl, by rw [Hp.del_ne _ (fun e => (hne' k _ hk).1 (by rw [e]))]; exact ha, haL, hba⟩
    rintro m1 hp1 ⟨f1, f2, f3, kvs, R⟩
    have I2 := I1.le f3
    refine EXs_cons (EX_Assign2 (EV_setE (EV_blt G (no_set w) blt_set (by decide) (fun _ => VR_ty) ⟨rfl, fun j hj' hjL => ASG_self G f1 (I2.le ((Hp.Le.refl _).set hj' _)) (ASG_Name ?_)⟩)))
    have I3 := (I2.le ((Hp.Le.refl hp1).set hj' (.set (fun _ => false) 0))).put (ma' := upd (upd ma (S "b2j") (.ref d)) (S "bjunk") (.ref j))
    refine EXs_cons (EX_Assign (EV_self G (by (first | assumption | (simp only [upd_get, String.reduceEq, if_true, if_false]; done) | (simp only [upd_get, String.reduceEq, if_true, if_false]; first | assumption | rfl))) I3 (by (first | assumption | (simp only [upd_get, String.reduceEq, if_true, if_false]; done) | (simp only [upd_get, String.reduceEq, if_true, if_false]; first | assumption | rfl))) ?_))
    refine EXs_cons ?_
    refine EX_If ?_
    refine TST_value ?_
    refine EV_local (by (first | assumption | (simp only [upd_get, String.reduceEq, if_true, if_false]; done) | (simp only [upd_get, String.reduceEq, if_true, if_false]; first | assumption | rfl))) ?_
    refine TRU_none ?_
    rw [if_neg Bool.false_ne_true]
    refine EXs_nil ?_
    refine EXs_cons (EX_Assign2 (EV_setE (EV_blt G (no_set w) blt_set (by decide) (fun _ => VR_ty) ⟨rfl, fun p hp' hpL => ASG_self G (by (first | assumption | (simp only [upd_get, String.reduceEq, if_true, if_false]; done) | (simp only [upd_get, String.reduceEq, if_true, if_false]; first | assumption | rfl))) (I3.le ((Hp.Le.refl _).set hp' _)) (ASG_Name ?_)⟩)))
    have I4 := (I3.le ((Hp.Le.refl _).set hp' (.set (fun _ => false) 0))).put (ma' := upd (upd (upd ma (S "b2j") (.ref d)) (S "bjunk") (.ref j)) (S "bpopular") (.ref p))
    have hjdx : j ≠ dx := Ne.symm (Hp.ne_of I2.at_ hj')
    have hpj : ((hp1.set j (.set (fun _ => false) 0)).set dx (.atr (upd (upd ma (S "b2j") (.ref d)) (S "bjunk") (.ref j)))) j = some (.set (fun _ => false) 0) := by rw [Hp.set_ne _ _ hjdx, Hp.set_same]
    have hpp : p ≠ j := Ne.symm (Hp.ne_of hpj hp')
    have hpdx : p ≠ dx := Ne.symm (Hp.ne_of I3.at_ hp')
    have hkeep : ∀ z o, z ≠ dx → hp1 z = some o → ((((hp1.set j (.set (fun _ => false) 0)).set dx (.atr (upd (upd ma (S "b2j") (.ref d)) (S "bjunk") (.ref j)))).set p (.set (fun _ => false) 0)).set dx (.atr (upd (upd (upd ma (S "b2j") (.ref d)) (S "bjunk") (.ref j)) (S "bpopular") (.ref p)))) z = some o := fun z o hz e => by
      have hzj : z ≠ j := Hp.ne_of e hj'
      have e2 : ((hp1.set j (.set (fun _ => false) 0)).set dx (.atr (upd (upd ma (S "b2j") (.ref d)) (S "bjunk") (.ref j)))) z = some o := by rw [Hp.set_ne _ _ hz, Hp.set_ne _ _ hzj]; exact e
      rw [Hp.set_ne _ _ hz, Hp.set_ne _ _ (Hp.ne_of e2 hp')]; exact e2
    have hj4 : ((((hp1.set j (.set (fun _ => false) 0)).set dx (.atr (upd (upd ma (S "b2j") (.ref d)) (S "bjunk") (.ref j)))).set p (.set (fun _ => false) 0)).set dx (.atr (upd (upd (upd ma (S "b2j") (.ref d)) (S "bjunk") (.ref j)) (S "bpopular") (.ref p)))) j = some (.set (fun _ => false) 0) := by
      rw [Hp.set_ne _ _ hjdx, Hp.set_ne _ _ (Ne.symm hpp)]; exact hpj
    generalize hq4 : (((hp1.set j (.set (fun _ => false) 0)).set dx (.atr (upd (upd ma (S "b2j") (.ref d)) (S "bjunk") (.ref j)))).set p (.set (fun _ => false) 0)).set dx (.atr (upd (upd (upd ma (S "b2j") (.ref d)) (S "bjunk") (.ref j)) (S "bpopular") (.ref p))) = hp4 at *
    have hl4 : Lst B hp4 L bA (bs.map .int) := by
      rcases hl1.le f3 with ⟨e, hh'⟩ | e
      · exact .inl ⟨hkeep _ _ (fun h => by rw [h, I2.at_] at e; cases e) e, hh'⟩
      · exact .inr e
    refine EXs_cons (EX_Assign (EV_CallB (EV_blt G (no_len w) blt_len (by decide) (fun _ => VR_bi) ⟨rfl, EVS_cons (EV_local (v := .ref bA) (by (first | assumption | (simp only [upd_get, String.reduceEq, if_true, if_false]; done) | (simp only [upd_get, String.reduceEq, if_true, if_false]; first | assumption | rfl))) (EVS_nil (CL_len hl4 (by rw [List.length_map]; exact sz' (by omega)) ?_)))⟩)))
    have fin : EXs (model PW w) (A.deeper (callEnv fdChain L 188)) (fun _ _ => False) B (callEnv fdChain L 188) [] (upd (upd (upd (upd m1 (S "junk") (.ref j)) (S "isjunk") .none) (S "popular") (.ref p)) (S "n") (.int (bs.map AV.int).length)) hp4 (RET L env m Q) := by
      refine EXs_nil (ret_cut (hkeep _ _ (Ne.symm hdE) (f3 _ _ (hle0 _ _ (by rw [Hp.del_ne _ (Ne.symm hdE)]; exact hcl)))) ?_)
      have hjE : j ≠ env.locals := fun e => by
        have := f3 _ _ (hle0 _ _ (show (hpc.del dx) env.locals = some (.ns m) by rw [Hp.del_ne _ (Ne.symm hdE)]; exact hcl))
        rw [← e, hj'] at this; cases this
      refine h _ d j p kvs ⟨?_, ?_, I.xL, I.dL⟩ (R.move (fun z o hz e _ hzL => ?_) hbd) ?_ hjE (fun z o hz hzE e => ?_) (by simp [Hp.cut])
      · rw [Hp.cut_eq I.xL I4.xL]; exact I4.ob
      · rw [Hp.cut_eq I.dL I4.dL]; exact I4.at_
      · have := hbn z hz
        exact ⟨by rw [Hp.cut_eq this.2 hzL]; exact hkeep _ _ this.1 e, this.2⟩
      · have hjL2 : j ≠ L := hjL
        rw [Hp.cut_eq hjE hjL2]; exact hj4
      · have hc : hpc z = some o := hback z o hzE e
        rw [Hp.cut_eq hzE (Hp.ne_of hc hLc)]
        exact hkeep _ _ hz (f3 _ _ (hle0 _ _ (by rw [Hp.del_ne _ hz]; exact hc)))
    refine EXs_cons ?_
    refine EX_If ?_
    refine TST_BoolOp ?_
    refine ALLT_And_cons ?_
    refine TST_value ?_
    refine EV_self G (by (first | assumption | (simp only [upd_get, String.reduceEq, if_true, if_false]; done) | (simp only [upd_get, String.reduceEq, if_true, if_false]; first | assumption | rfl))) I4 (by (first | assumption | (simp only [upd_get, String.reduceEq, if_true, if_false]; done) | (simp only [upd_get, String.reduceEq, if_true, if_false]; first | assumption | rfl))) ?_
    refine TRU_bool ?_
    cases aj with
    | false =>
      rw [if_neg Bool.false_ne_true, if_neg Bool.false_ne_true]
      exact EXs_nil fin
    | true =>
      rw [if_pos rfl]
      refine ALLT_And_cons ?_
      refine TST_Compare1 ?_
      refine EV_local (by (first | assumption | (simp only [upd_get, String.reduceEq, if_true, if_false]; done) | (simp only [upd_get, String.reduceEq, if_true, if_false]; first | assumption | rfl))) ?_
      refine EV_int ?_
      refine OP_ge ?_
      refine TRU_bool ?_
      have hlt : bs.length < 200 := by rcases hn with h | h; cases h; exact h
      rw [show decide (((bs.map AV.int).length : Int) ≥ 200) = false from by rw [List.length_map]; simp; omega, if_neg Bool.false_ne_true, if_neg Bool.false_ne_true]
      exact EXs_nil fin
end
end Mine

open PySem PySem.W PyProof.Rows PySem.Calls
set_option maxRecDepth 100000
namespace Mine
def aNames : List String := ["isjunk", "a", "b", "autojunk", "matching_blocks", "opcodes", "fullbcount", "b2j", "bjunk", "bpopular"]
structure SMf (ma : Loc) (aA bA d j : Addr) (aj : Bool) : Prop where
  a : ma (S "a") = some (.ref aA)
  b : ma (S "b") = some (.ref bA)
  b2j : ma (S "b2j") = some (.ref d)
  bj : ma (S "bjunk") = some (.ref j)
  mb : ma (S "matching_blocks") = some .none
  op : ma (S "opcodes") = some .none
  fb : ma (S "fullbcount") = some .none
  ij : ma (S "isjunk") = some .none
  aj : ma (S "autojunk") = some (.bool aj)
  no : ∀ y, y ∉ aNames → ma (S y) = none
section
variable {w : World} {A : Around} {E : Value → Shared → Prop} {B : Shared} {env : Env} {m : Loc} {hp : Hp}
theorem CL_seq1 {x dx aA : Addr} {ma : Loc} {Q : AV → Hp → Prop} (G : Gnd (KW w) B) (hroom : A.depth < recursionLimit) (I : Ins hp env.locals x dx 242 ma) (ha : ma (S "a") = some .none)
    (h : Q .none (hp.set dx (.atr (upd (upd (upd ma (S "a") (.ref aA)) (S "matching_blocks") .none) (S "opcodes") .none)))) : CL (model PW w) A E B env (.ref 174) m [.ref x, .ref aA] hp Q := by
  refine CD.cl (CD_fn (bs := [(S "a", .ref aA), (S "self", .ref x)]) (body := dBody (mS 3)) G (kSeq1 w) (by kernel_rfl) rfl hroom (fun s vs hv _ => ?_) (by kernel_rfl) (by decide) (fun L hL hLe => ?_))
  · obtain ⟨v, u, rfl, h1, h2⟩ := VRs_two hv
    exact ⟨[(S "self", v), (S "a", u)], BindsTo.of_eq rfl, rfl, by simp only [List.reverse_cons, List.reverse_nil, List.nil_append, List.cons_append, List.map_cons, List.map_nil, VRs]; exact ⟨_, _, rfl, h2, _, _, rfl, h1, rfl⟩⟩
  · have I' : Ins (hp.set env.locals (.ns m)) L x dx 242 ma := I.call hL
    have g0 : locOf [(S "a", AV.ref aA), (S "self", AV.ref x)] (S "self") = some (.ref x) := by simp only [locOf_get, String.reduceEq, if_false, if_true]
    have g1 : locOf [(S "a", AV.ref aA), (S "self", AV.ref x)] (S "a") = some (.ref aA) := by simp only [locOf_get, if_true]
    generalize hm0 : locOf [(S "a", AV.ref aA), (S "self", AV.ref x)] = m0 at *
    conv => arg 6; whnf
    refine EXs_cons (EX_doc ?_)
    refine EXs_cons ?_
    refine EX_If ?_
    refine TST_Compare1 ?_
    refine EV_local (by (first | assumption | (simp only [upd_get, String.reduceEq, if_true, if_false]; done) | (simp only [upd_get, String.reduceEq, if_true, if_false]; first | assumption | rfl))) ?_
    refine EV_self G (by (first | assumption | (simp only [upd_get, String.reduceEq, if_true, if_false]; done) | (simp only [upd_get, String.reduceEq, if_true, if_false]; first | assumption | rfl))) I' ha ?_
    refine OP_isNone ?_
    refine TRU_bool ?_
    rw [show AV.isNone (.ref aA) = false from rfl, if_neg Bool.false_ne_true]
    refine EXs_nil ?_
    refine EXs_cons ?_
    refine EX_AssignA (EV_local g1 (ASG_self G g0 I' ?_))
    have I1 := I'.put (ma' := upd ma (S "a") (.ref aA))
    refine EXs_cons (EX_Assign2 (EV_none (ASG_self G g0 I1 ?_)))
    rw [Hp.set_set]
    have I2 := I'.put (ma' := upd (upd ma (S "a") (.ref aA)) (S "matching_blocks") .none)
    refine ASG_self G g0 I2 ?_
    rw [Hp.set_set]
    refine EXs_nil ?_
    exact ret_put hL I.dL I'.dL h
theorem CL_seq2 {x dx bA : Addr} {ma : Loc} {bs : List Int} {aj : Bool} {Q : AV → Hp → Prop} (G : Gnd (KW w) B) (hh : A.handled = none) (hroom : A.depth + 1 < recursionLimit) (I : Ins hp env.locals x dx 242 ma) (hb : ma (S "b") = some .none) (hl : Lst B hp env.locals bA (bs.map .int))
    (hj : ma (S "isjunk") = some .none) (ha : ma (S "autojunk") = some (.bool aj)) (hc : ma (S "_SequenceMatcher__chain_b") = none) (hn : aj = false ∨ bs.length < 200) (hlen : bs.length ≤ 900)
    (h : ∀ hp' d j p kvs, Ins hp' env.locals x dx 242 (upd (upd (upd (upd (upd (upd (upd ma (S "b") (.ref bA)) (S "matching_blocks") .none) (S "opcodes") .none) (S "fullbcount") .none) (S "b2j") (.ref d)) (S "bjunk") (.ref j)) (S "bpopular") (.ref p)) → B2J hp0 hp' env.locals d kvs bs → hp' j = some (.set (fun _ => false) 0) → j ≠ env.locals → (∀ z o, z ≠ dx → z ≠ env.locals → hp z = some o → hp' z = some o) → hp' env.locals = none → Q .none hp') :
    CL (model PW w) A E B env (.ref 181) m [.ref x, .ref bA] hp Q := by
  refine CD.cl (CD_fn (bs := [(S "b", .ref bA), (S "self", .ref x)]) (body := dBody (mS 4)) G (kSeq2 w) (by kernel_rfl) rfl (by omega) (fun s vs hv _ => ?_) (by kernel_rfl) (by decide) (fun L hL hLe => ?_))
  · obtain ⟨v, u, rfl, h1, h2⟩ := VRs_two hv
    exact ⟨[(S "self", v), (S "b", u)], BindsTo.of_eq rfl, rfl, by simp only [List.reverse_cons, List.reverse_nil, List.nil_append, List.cons_append, List.map_cons, List.map_nil, VRs]; exact ⟨_, _, rfl, h2, _, _, rfl, h1, rfl⟩⟩
  · have I' : Ins (hp.set env.locals (.ns m)) L x dx 242 ma := I.call hL
    have hl' : Lst B (hp.set env.locals (.ns m)) L bA (bs.map .int) := hl.call hL
    have hdl : ∀ ys, (hp.set env.locals (.ns m)) dx ≠ some (.list ys) := fun ys e => by rw [I'.at_] at e; cases e
    have g0 : locOf [(S "b", AV.ref bA), (S "self", AV.ref x)] (S "self") = some (.ref x) := by simp only [locOf_get, String.reduceEq, if_false, if_true]
    have g1 : locOf [(S "b", AV.ref bA), (S "self", AV.ref x)] (S "b") = some (.ref bA) := by simp only [locOf_get, if_true]
    generalize hm0 : locOf [(S "b", AV.ref bA), (S "self", AV.ref x)] = m0 at *
    conv => arg 6; whnf
    refine EXs_cons (EX_doc ?_)
    refine EXs_cons ?_
    refine EX_If ?_
    refine TST_Compare1 ?_
    refine EV_local (by (first | assumption | (simp only [upd_get, String.reduceEq, if_true, if_false]; done) | (simp only [upd_get, String.reduceEq, if_true, if_false]; first | assumption | rfl))) ?_
    refine EV_self G (by (first | assumption | (simp only [upd_get, String.reduceEq, if_true, if_false]; done) | (simp only [upd_get, String.reduceEq, if_true, if_false]; first | assumption | rfl))) I' hb ?_
    refine OP_isNone ?_
    refine TRU_bool ?_
    rw [show AV.isNone (.ref bA) = false from rfl, if_neg Bool.false_ne_true]
    refine EXs_nil ?_
    refine EXs_cons ?_
    refine EX_AssignA (EV_local g1 (ASG_self G g0 I' ?_))
    have I1 := I'.put (ma' := upd ma (S "b") (.ref bA))
    refine EXs_cons (EX_Assign2 (EV_none (ASG_self G g0 I1 ?_)))
    rw [Hp.set_set]
    have I2 := I'.put (ma' := upd (upd ma (S "b") (.ref bA)) (S "matching_blocks") .none)
    refine ASG_self G g0 I2 ?_
    rw [Hp.set_set]
    have I3 := I'.put (ma' := upd (upd (upd ma (S "b") (.ref bA)) (S "matching_blocks") .none) (S "opcodes") .none)
    refine EXs_cons (EX_AssignA (EV_none (ASG_self G g0 I3 ?_)))
    rw [Hp.set_set]
    have I4 := I'.put (ma' := upd (upd (upd (upd ma (S "b") (.ref bA)) (S "matching_blocks") .none) (S "opcodes") .none) (S "fullbcount") .none)
    refine EXs_cons (EX_Expr (EV_meth0 G (clsS w) (f := 188) (by kernel_rfl) (by kernel_rfl) (by kernel_rfl) (EV_local g0 ⟨x, dx, _, rfl, I4, ?_, ?_⟩)))
    · (first | assumption | (simp only [upd_get, String.reduceEq, if_true, if_false]; done) | (simp only [upd_get, String.reduceEq, if_true, if_false]; first | assumption | rfl))
    refine CL_chain (A := A.deeper (callEnv fdSeq2 L 181)) G hh (by show A.depth + 1 < _; omega) I4 (by (first | assumption | (simp only [upd_get, String.reduceEq, if_true, if_false]; done) | (simp only [upd_get, String.reduceEq, if_true, if_false]; first | assumption | rfl))) (hl'.put hdl) (by (first | assumption | (simp only [upd_get, String.reduceEq, if_true, if_false]; done) | (simp only [upd_get, String.reduceEq, if_true, if_false]; first | assumption | rfl))) (by (first | assumption | (simp only [upd_get, String.reduceEq, if_true, if_false]; done) | (simp only [upd_get, String.reduceEq, if_true, if_false]; first | assumption | rfl))) hn hlen fun hp' d j p kvs i1 i2 i3 i4 i5 i6 => ?_
    refine ⟨by simp, by simp, by simp, ?_⟩
    change j ≠ L at i4
    have keepz : ∀ z o, z ≠ dx → z ≠ L → (hp.set env.locals (.ns m)) z = some o → hp' z = some o := fun z o hz hzL e => i5 z o hz hzL (by rw [Hp.set_ne _ _ hz]; exact e)
    have hle : hp' env.locals = some (.ns m) := keepz _ _ (Ne.symm I.dL) (Ne.symm hLe) (Hp.set_same ..)
    have hjE : j ≠ env.locals := fun e => by rw [e, hle] at i3; cases i3
    refine EXs_nil (ret_cut hle (h _ d j p kvs ⟨?_, ?_, I.xL, I.dL⟩ (i2.move (fun z o _ e hns hz => ?_) rfl) ?_ hjE (fun z o hz hzE e => ?_) (by simp [Hp.cut])))
    · rw [Hp.cut_eq I.xL (show x ≠ L from i1.xL)]; exact i1.ob
    · rw [Hp.cut_eq I.dL (show dx ≠ L from i1.dL)]; exact i1.at_
    · have hzE : z ≠ env.locals := fun h => by rw [h, hle] at e; cases e; exact hns _ rfl
      exact ⟨by rw [Hp.cut_eq hzE (show z ≠ L from hz)]; exact e, hzE⟩
    · rw [Hp.cut_eq hjE i4]; exact i3
    · have hzL : z ≠ L := Hp.ne_of e hL
      rw [Hp.cut_eq hzE hzL]
      exact keepz z o hz hzL (by rw [Hp.set_ne _ _ hzE]; exact e)
theorem CL_seqs {x dx aA bA : Addr} {ma : Loc} {bs : List Int} {aj : Bool} {Q : AV → Hp → Prop} (G : Gnd (KW w) B) (hh : A.handled = none) (hroom : A.depth + 2 < recursionLimit) (I : Ins hp env.locals x dx 242 ma) (ha : ma (S "a") = some .none) (hb : ma (S "b") = some .none) (hl : Lst B hp env.locals bA (bs.map .int))
    (hj : ma (S "isjunk") = some .none) (hau : ma (S "autojunk") = some (.bool aj)) (hno : ∀ y, y ∉ aNames → ma (S y) = none) (hn : aj = false ∨ bs.length < 200) (hlen : bs.length ≤ 900)
    (h : ∀ hp' ma' d j kvs, Ins hp' env.locals x dx 242 ma' → SMf ma' aA bA d j aj → B2J hp0 hp' env.locals d kvs bs → hp' j = some (.set (fun _ => false) 0) → j ≠ env.locals → (∀ z o, z ≠ dx → z ≠ env.locals → hp z = some o → hp' z = some o) → hp' env.locals = none → Q .none hp') :
    CL (model PW w) A E B env (.ref 167) m [.ref x, .ref aA, .ref bA] hp Q := by
  refine CD.cl (CD_fn (bs := [(S "b", .ref bA), (S "a", .ref aA), (S "self", .ref x)]) (body := dBody (mS 2)) G (kSeqs w) (by kernel_rfl) rfl (by omega) (fun s vs hv _ => ?_) (by kernel_rfl) (by decide) (fun L hL hLe => ?_))
  · obtain ⟨v, u, z, rfl, h1, h2, h3⟩ := VRs_three hv
    exact ⟨[(S "self", v), (S "a", u), (S "b", z)], BindsTo.of_eq rfl, rfl, by simp only [List.reverse_cons, List.reverse_nil, List.nil_append, List.cons_append, List.map_cons, List.map_nil, VRs]; exact ⟨_, _, rfl, h3, _, _, rfl, h2, _, _, rfl, h1, rfl⟩⟩
  · have I' : Ins (hp.set env.locals (.ns m)) L x dx 242 ma := I.call hL
    have hl' : Lst B (hp.set env.locals (.ns m)) L bA (bs.map .int) := hl.call hL
    have hdl : ∀ ys, (hp.set env.locals (.ns m)) dx ≠ some (.list ys) := fun ys e => by rw [I'.at_] at e; cases e
    have g0 : locOf [(S "b", AV.ref bA), (S "a", AV.ref aA), (S "self", AV.ref x)] (S "self") = some (.ref x) := by simp only [locOf_get, String.reduceEq, if_false, if_true]
    have g1 : locOf [(S "b", AV.ref bA), (S "a", AV.ref aA), (S "self", AV.ref x)] (S "b") = some (.ref bA) := by simp only [locOf_get, if_true]
    have g2 : locOf [(S "b", AV.ref bA), (S "a", AV.ref aA), (S "self", AV.ref x)] (S "a") = some (.ref aA) := by simp only [locOf_get, String.reduceEq, if_false, if_true]
    generalize hm0 : locOf [(S "b", AV.ref bA), (S "a", AV.ref aA), (S "self", AV.ref x)] = m0 at *
    have hc1 : ma (S "set_seq1") = none := hno _ (by decide)
    have hc2 : ma (S "set_seq2") = none := hno _ (by decide)
    have hc3 : ma (S "_SequenceMatcher__chain_b") = none := hno _ (by decide)
    conv => arg 6; whnf
    refine EXs_cons (EX_doc ?_)
    refine EXs_cons (EX_Expr (EV_meth G (clsS w) (f := 174) (by kernel_rfl) (by kernel_rfl) (by kernel_rfl) (EV_local g0 ⟨x, dx, _, rfl, I', hc1, EVS_cons (EV_local g2 (EVS_nil ?_))⟩)))
    refine CL_seq1 (A := A.deeper (callEnv fdSeqs L 167)) G (by show A.depth + 1 < _; omega) I' ha ?_
    refine ⟨by simp, by simp, by simp, ?_⟩
    have I1 := I'.put (ma' := upd (upd (upd ma (S "a") (.ref aA)) (S "matching_blocks") .none) (S "opcodes") .none)
    refine EXs_cons (EX_Expr (EV_meth G (clsS w) (f := 181) (by kernel_rfl) (by kernel_rfl) (by kernel_rfl) (EV_local g0 ⟨x, dx, _, rfl, I1, ?_, EVS_cons (EV_local g1 (EVS_nil ?_))⟩)))
    · (first | assumption | (simp only [upd_get, String.reduceEq, if_true, if_false]; done) | (simp only [upd_get, String.reduceEq, if_true, if_false]; first | assumption | rfl))
    refine CL_seq2 (A := A.deeper (callEnv fdSeqs L 167)) G hh (by show A.depth + 1 + 1 < _; omega) I1 (by (first | assumption | (simp only [upd_get, String.reduceEq, if_true, if_false]; done) | (simp only [upd_get, String.reduceEq, if_true, if_false]; first | assumption | rfl))) (hl'.put hdl) (by (first | assumption | (simp only [upd_get, String.reduceEq, if_true, if_false]; done) | (simp only [upd_get, String.reduceEq, if_true, if_false]; first | assumption | rfl))) (by (first | assumption | (simp only [upd_get, String.reduceEq, if_true, if_false]; done) | (simp only [upd_get, String.reduceEq, if_true, if_false]; first | assumption | rfl))) (by (first | assumption | (simp only [upd_get, String.reduceEq, if_true, if_false]; done) | (simp only [upd_get, String.reduceEq, if_true, if_false]; first | assumption | rfl))) hn hlen fun hp' d j p kvs i1 i2 i3 i4 i5 i6 => ?_
    refine ⟨by simp, by simp, by simp, ?_⟩
    change j ≠ L at i4
    have keepz : ∀ z o, z ≠ dx → z ≠ L → (hp.set env.locals (.ns m)) z = some o → hp' z = some o := fun z o hz hzL e => i5 z o hz hzL (by rw [Hp.set_ne _ _ hz]; exact e)
    have hle : hp' env.locals = some (.ns m) := keepz _ _ (Ne.symm I.dL) (Ne.symm hLe) (Hp.set_same ..)
    have hjE : j ≠ env.locals := fun e => by rw [e, hle] at i3; cases i3
    have i1' := Ins.mk (hp := hp'.cut env.locals L) (L := env.locals) (by rw [Hp.cut_eq I.xL (show x ≠ L from i1.xL)]; exact i1.ob) (by rw [Hp.cut_eq I.dL (show dx ≠ L from i1.dL)]; exact i1.at_) I.xL I.dL
    refine EXs_nil (ret_cut hle (h _ _ d j kvs i1' ⟨by (first | assumption | (simp only [upd_get, String.reduceEq, if_true, if_false]; done) | (simp only [upd_get, String.reduceEq, if_true, if_false]; first | assumption | rfl)), by (first | assumption | (simp only [upd_get, String.reduceEq, if_true, if_false]; done) | (simp only [upd_get, String.reduceEq, if_true, if_false]; first | assumption | rfl)), by (first | assumption | (simp only [upd_get, String.reduceEq, if_true, if_false]; done) | (simp only [upd_get, String.reduceEq, if_true, if_false]; first | assumption | rfl)), by (first | assumption | (simp only [upd_get, String.reduceEq, if_true, if_false]; done) | (simp only [upd_get, String.reduceEq, if_true, if_false]; first | assumption | rfl)), by (first | assumption | (simp only [upd_get, String.reduceEq, if_true, if_false]; done) | (simp only [upd_get, String.reduceEq, if_true, if_false]; first | assumption | rfl)), by (first | assumption | (simp only [upd_get, String.reduceEq, if_true, if_false]; done) | (simp only [upd_get, String.reduceEq, if_true, if_false]; first | assumption | rfl)), by (first | assumption | (simp only [upd_get, String.reduceEq, if_true, if_false]; done) | (simp only [upd_get, String.reduceEq, if_true, if_false]; first | assumption | rfl)), by (first | assumption | (simp only [upd_get, String.reduceEq, if_true, if_false]; done) | (simp only [upd_get, String.reduceEq, if_true, if_false]; first | assumption | rfl)), by (first | assumption | (simp only [upd_get, String.reduceEq, if_true, if_false]; done) | (simp only [upd_get, String.reduceEq, if_true, if_false]; first | assumption | rfl)), fun y hy => ?_⟩ (i2.move (fun z o _ e hns hz => ?_) rfl) ?_ hjE (fun z o hz hzE e => ?_) (by simp [Hp.cut])))
    · have hy' := hy
      simp only [aNames, List.mem_cons, List.not_mem_nil, or_false, not_or] at hy'
      obtain ⟨h1, h2, h3, h4, h5, h6, h7, h8, h9, h10⟩ := hy'
      simp only [upd_get, h1, h2, h3, h4, h5, h6, h7, h8, h9, h10, if_false]
      exact hno y hy
    · have hzE : z ≠ env.locals := fun h => by rw [h, hle] at e; cases e; exact hns _ rfl
      exact ⟨by rw [Hp.cut_eq hzE (show z ≠ L from hz)]; exact e, hzE⟩
    · rw [Hp.cut_eq hjE i4]; exact i3
    · have hzL : z ≠ L := Hp.ne_of e hL
      rw [Hp.cut_eq hzE hzL]
      exact keepz z o hz hzL (by rw [Hp.set_ne _ _ hzE]; exact e)
theorem CL_SM {aA bA : Addr} {bs : List Int} {aj : Bool} {Q : AV → Hp → Prop} (G : Gnd (KW w) B) (hh : A.handled = none) (hroom : A.depth + 5 < recursionLimit) (hl : Lst B hp env.locals bA (bs.map .int)) (hn : aj = false ∨ bs.length < 200) (hlen : bs.length ≤ 900)
    (h : ∀ hp' x dx ma d j kvs, Ins hp' env.locals x dx 242 ma → SMf ma aA bA d j aj → B2J hp0 hp' env.locals d kvs bs → hp' j = some (.set (fun _ => false) 0) → j ≠ env.locals → (∀ z o, z ≠ env.locals → hp z = some o → hp' z = some o) → hp' env.locals = none → Q (.ref x) hp') :
    CL (model PW w) A E B env (.ref 242) m [.none, .ref aA, .ref bA, .bool aj] hp Q := by
  refine CL_make G (makesS w) (fI := 160) (by kernel_rfl) (by kernel_rfl) fun x dx vs' hx hdx hxd hxL hdL => ?_
  refine CD_fn (bs := [(S "autojunk", .bool aj), (S "b", .ref bA), (S "a", .ref aA), (S "isjunk", .none), (S "self", .ref x)]) (body := dBody (mS 1)) G (kInit w) (by kernel_rfl) rfl (by show A.depth + 1 < _; omega) (fun s vs hv hk => ?_) (by kernel_rfl) (by decide) (fun L hL hLe => ?_)
  · obtain ⟨v, u, z, y, t, rfl, h1, h2, h3, h4, h5⟩ : ∃ u v w z t, vs = [u, v, w, z, t] ∧ VR s.heap (.ref x) u ∧ VR s.heap .none v ∧ VR s.heap (.ref aA) w ∧ VR s.heap (.ref bA) z ∧ VR s.heap (.bool aj) t := by
      simp only [VRs] at hv; obtain ⟨v, r, rfl, h1, u, r1, rfl, h2, z, r2, rfl, h3, y, r3, rfl, h4, t, r4, rfl, h5, rfl⟩ := hv; exact ⟨_, _, _, _, _, rfl, h1, h2, h3, h4, h5⟩
    exact ⟨[(S "self", v), (S "isjunk", u), (S "a", z), (S "b", y), (S "autojunk", t)], binds_K (G.X.keeps hk) rfl (by rfl) rfl rfl rfl, rfl, by simp only [List.reverse_cons, List.reverse_nil, List.nil_append, List.cons_append, List.map_cons, List.map_nil, VRs]; exact ⟨_, _, rfl, h5, _, _, rfl, h4, _, _, rfl, h3, _, _, rfl, h2, _, _, rfl, h1, rfl⟩⟩
  · have hle : Hp.Le hp ((hp.set dx (.atr fun _ => none)).set x (.obj (instObj 242 dx))) := ((Hp.Le.refl hp).set hdx _).set hx _
    have I : Ins ((hp.set dx (.atr fun _ => none)).set x (.obj (instObj 242 dx))) env.locals x dx 242 (fun _ => none) := ⟨Hp.set_same .., by rw [Hp.set_ne _ _ (Ne.symm hxd), Hp.set_same], hxL, hdL⟩
    have hl1 := hl.le hle
    have hpne : ∀ z o, hp z = some o → z ≠ dx := fun z o e h => by rw [h, hdx] at e; cases e
    generalize hq : (hp.set dx (.atr fun _ => none)).set x (.obj (instObj 242 dx)) = hp1 at *
    have I' : Ins (hp1.set env.locals (.ns m)) L x dx 242 (fun _ => none) := I.call hL
    have hl' : Lst B (hp1.set env.locals (.ns m)) L bA (bs.map .int) := hl1.call hL
    have hdl : ∀ ys, (hp1.set env.locals (.ns m)) dx ≠ some (.list ys) := fun ys e => by rw [I'.at_] at e; cases e
    have g0 : locOf [(S "autojunk", AV.bool aj), (S "b", AV.ref bA), (S "a", AV.ref aA), (S "isjunk", AV.none), (S "self", AV.ref x)] (S "self") = some (.ref x) := by simp only [locOf_get, String.reduceEq, if_false, if_true]
    have g1 : locOf [(S "autojunk", AV.bool aj), (S "b", AV.ref bA), (S "a", AV.ref aA), (S "isjunk", AV.none), (S "self", AV.ref x)] (S "b") = some (.ref bA) := by simp only [locOf_get, String.reduceEq, if_false, if_true]
    have g2 : locOf [(S "autojunk", AV.bool aj), (S "b", AV.ref bA), (S "a", AV.ref aA), (S "isjunk", AV.none), (S "self", AV.ref x)] (S "a") = some (.ref aA) := by simp only [locOf_get, String.reduceEq, if_false, if_true]
    have g3 : locOf [(S "autojunk", AV.bool aj), (S "b", AV.ref bA), (S "a", AV.ref aA), (S "isjunk", AV.none), (S "self", AV.ref x)] (S "isjunk") = some .none := by simp only [locOf_get, String.reduceEq, if_false, if_true]
    have g4 : locOf [(S "autojunk", AV.bool aj), (S "b", AV.ref bA), (S "a", AV.ref aA), (S "isjunk", AV.none), (S "self", AV.ref x)] (S "autojunk") = some (.bool aj) := by simp only [locOf_get, if_true]
    generalize hm0 : locOf [(S "autojunk", AV.bool aj), (S "b", AV.ref bA), (S "a", AV.ref aA), (S "isjunk", AV.none), (S "self", AV.ref x)] = m0 at *
    conv => arg 6; whnf
    refine EXs_cons (EX_doc ?_)
    refine EXs_cons (EX_AssignA (EV_local g3 (ASG_self G g0 I' ?_)))
    have I1 := I'.put (ma' := upd (fun _ => none) (S "isjunk") .none)
    refine EXs_cons (EX_Assign2 (EV_none (ASG_self G g0 I1 ?_)))
    rw [Hp.set_set]
    have I2 := I'.put (ma' := upd (upd (fun _ => none) (S "isjunk") .none) (S "a") .none)
    refine ASG_self G g0 I2 ?_
    rw [Hp.set_set]
    have I3 := I'.put (ma' := upd (upd (upd (fun _ => none) (S "isjunk") .none) (S "a") .none) (S "b") .none)
    refine EXs_cons (EX_AssignA (EV_local g4 (ASG_self G g0 I3 ?_)))
    rw [Hp.set_set]
    have I4 := I'.put (ma' := upd (upd (upd (upd (fun _ => none) (S "isjunk") .none) (S "a") .none) (S "b") .none) (S "autojunk") (.bool aj))
    refine EXs_cons (EX_Expr (EV_meth G (clsS w) (f := 167) (by kernel_rfl) (by kernel_rfl) (by kernel_rfl) (EV_local g0 ⟨x, dx, _, rfl, I4, ?_, EVS_cons (EV_local g2 (EVS_cons (EV_local g1 (EVS_nil ?_))))⟩)))
    · (first | assumption | (simp only [upd_get, String.reduceEq, if_true, if_false]; done) | (simp only [upd_get, String.reduceEq, if_true, if_false]; first | assumption | rfl))
    refine CL_seqs (A := (A.under (.builtin "type.__call__" ⟨.ref 242 :: vs', []⟩)).deeper (callEnv fdInit L 160)) G hh (by show A.depth + 1 + 1 + 2 < _; omega) I4 (by (first | assumption | (simp only [upd_get, String.reduceEq, if_true, if_false]; done) | (simp only [upd_get, String.reduceEq, if_true, if_false]; first | assumption | rfl))) (by (first | assumption | (simp only [upd_get, String.reduceEq, if_true, if_false]; done) | (simp only [upd_get, String.reduceEq, if_true, if_false]; first | assumption | rfl))) (hl'.put hdl) (by (first | assumption | (simp only [upd_get, String.reduceEq, if_true, if_false]; done) | (simp only [upd_get, String.reduceEq, if_true, if_false]; first | assumption | rfl))) (by (first | assumption | (simp only [upd_get, String.reduceEq, if_true, if_false]; done) | (simp only [upd_get, String.reduceEq, if_true, if_false]; first | assumption | rfl))) (fun y hy => ?_) hn hlen fun hp' ma' d j kvs i1 i2 i3 i4 i5 i6 i7 => ?_
    · have hy' := hy
      simp only [aNames, List.mem_cons, List.not_mem_nil, or_false, not_or] at hy'
      obtain ⟨h1, h2, h3, h4, h5, h6, h7, h8, h9, h10⟩ := hy'
      simp only [upd_get, h1, h2, h3, h4, if_false]
    refine ⟨by simp, by simp, by simp, ?_⟩
    change j ≠ L at i5
    have keepz : ∀ z o, z ≠ dx → z ≠ L → (hp1.set env.locals (.ns m)) z = some o → hp' z = some o := fun z o hz hzL e => i6 z o hz hzL (by rw [Hp.set_ne _ _ hz]; exact e)
    have hlE : hp' env.locals = some (.ns m) := keepz _ _ (Ne.symm I.dL) (Ne.symm hLe) (Hp.set_same ..)
    have hjE : j ≠ env.locals := fun e => by rw [e, hlE] at i4; cases i4
    have i1' := Ins.mk (hp := hp'.cut env.locals L) (L := env.locals) (by rw [Hp.cut_eq I.xL (show x ≠ L from i1.xL)]; exact i1.ob) (by rw [Hp.cut_eq I.dL (show dx ≠ L from i1.dL)]; exact i1.at_) I.xL I.dL
    refine EXs_nil (ret_cut hlE ⟨rfl, h _ x dx ma' d j kvs i1' i2 (i3.move (fun z o _ e hns hz => ?_) rfl) ?_ hjE (fun z o hzE e => ?_) (by simp [Hp.cut])⟩)
    · have hzE : z ≠ env.locals := fun h => by rw [h, hlE] at e; cases e; exact hns _ rfl
      exact ⟨by rw [Hp.cut_eq hzE (show z ≠ L from hz)]; exact e, hzE⟩
    · rw [Hp.cut_eq hjE i5]; exact i4
    · have e1 := hle _ _ e
      have hzL : z ≠ L := Hp.ne_of e1 hL
      rw [Hp.cut_eq hzE hzL]
      exact keepz z o (hpne z o e) hzL (by rw [Hp.set_ne _ _ hzE]; exact e1)
end
end Mine

open PySem PySem.W PyProof.Rows PySem.Calls
set_option maxRecDepth 100000
namespace Mine
abbrev Best := Int × Int × Int
abbrev FSt := (Int → Int) × Best
def innS (i : Int) (f : Int → Int) (st : FSt) (j : Int) : FSt :=
  (fun x => if x = j then f (j - 1) + 1 else st.1 x, if f (j - 1) + 1 > st.2.2.2 then (i - (f (j - 1) + 1) + 1, j - (f (j - 1) + 1) + 1, f (j - 1) + 1) else st.2)
def inner (i blo bhi : Int) (f : Int → Int) : List Nat → FSt → FSt
  | [], st => st
  | j :: js, st => if (j : Int) < blo then inner i blo bhi f js st else if (j : Int) ≥ bhi then st else inner i blo bhi f js (innS i f st j)
def DI (kvs : List (Int × AV)) (f : Int → Int) : Prop := ∀ k, (dget kvs k).getD (.int 0) = .int (f k)
theorem dget_dput (kvs : List (Int × AV)) (k : Int) (v : AV) (k' : Int) : dget (dput kvs k v) k' = if k' = k then some v else dget kvs k' := by
  unfold dput
  by_cases h : (kvs.any fun kv => decide (kv.1 = k)) = true
  · rw [if_pos h]
    unfold dget
    induction kvs with
    | nil => simp at h
    | cons p kvs ih =>
      obtain ⟨q, u⟩ := p
      simp only [List.map_cons]
      by_cases hq : q = k
      · subst hq
        by_cases hk : k' = q
        · subst hk; simp
        · simp only [if_true, List.find?_cons, hk, if_false]
          rw [show decide (q = k') = false from by simpa using Ne.symm hk]
          dsimp only
          by_cases h' : (kvs.any fun kv => decide (kv.1 = q)) = true
          · rw [ih h', if_neg hk]
          · have : kvs.map (fun kv => if kv.1 = q then (kv.1, v) else kv) = kvs := by
              rw [List.map_congr_left (g := id)]; simp
              intro a ha
              have : a.1 ≠ q := fun e => h' (List.any_eq_true.mpr ⟨a, ha, by simpa using e⟩)
              simp [this]
            rw [this]
      · simp only [hq, if_false, List.find?_cons]
        by_cases hk : q = k'
        · subst hk; simp [hq]
        · rw [show decide (q = k') = false from by simpa using hk]
          dsimp only
          refine ih ?_
          simpa [hq] using h
  · rw [if_neg h]
    refine dget_snoc kvs k v k' ?_
    unfold dget
    rw [List.find?_eq_none.mpr]; rfl
    intro x hx hx'
    exact h (List.any_eq_true.mpr ⟨x, hx, hx'⟩)
theorem dput_len (kvs : List (Int × AV)) (k : Int) (v : AV) : (dput kvs k v).length ≤ kvs.length + 1 := by
  unfold dput; split <;> simp
theorem DI.put {kvs : List (Int × AV)} {f : Int → Int} (h : DI kvs f) (k v : Int) : DI (dput kvs k (.int v)) (fun x => if x = k then v else f x) := fun x => by
  rw [dget_dput]
  by_cases e : x = k
  · simp [e]
  · simp only [e, if_false]; exact h x
def flmS (i : Nat) : Stmt := (dBody (mS 6)).getD i (.Pass ⟨0, 0, 0, 0⟩)
def flmO : List Stmt := match flmS 7 with | .For _ _ b _ _ => b | _ => []
def flmI : Stmt := flmO.getD 2 (.Pass ⟨0, 0, 0, 0⟩)
def bestL (m : Loc) (b : Best) : Prop := m (S "besti") = some (.int b.1) ∧ m (S "bestj") = some (.int b.2.1) ∧ m (S "bestsize") = some (.int b.2.2)
structure JD (hp : Hp) (L d : Addr) (J : Int → List Nat) : Prop where
  ex : ∃ kvs, hp d = some (.dict kvs) ∧ d ≠ L ∧ (∀ k, dget kvs k = none → J k = []) ∧ ∀ k v, dget kvs k = some v → ∃ a, v = .ref a ∧ hp a = some (.list ((J k).map fun (i : Nat) => AV.int (i : Int))) ∧ a ≠ L
theorem B2J.jd {hp : Hp} {L d : Addr} {kvs : List (Int × AV)} {bs : List Int} (R : B2J hp0 hp L d kvs bs) : JD hp L d (idxN bs) := ⟨kvs, R.di, R.dL, R.no, fun k v hk => by obtain ⟨a, e, ha, haL, _⟩ := R.yes k v hk; exact ⟨a, e, ha, haL⟩⟩
theorem JD.le {hp hp' : Hp} {L d : Addr} {J : Int → List Nat} (R : JD hp L d J) (le : Hp.Le hp hp') : JD hp' L d J := by
  obtain ⟨kvs, h1, h2, h3, h4⟩ := R.ex
  exact ⟨kvs, le _ _ h1, h2, h3, fun k v hk => by obtain ⟨a, e, ha, haL⟩ := h4 k v hk; exact ⟨a, e, le _ _ ha, haL⟩⟩
section
variable {w : World} {A : Around} {E : Value → Shared → Prop} {B : Shared} {m : Loc} {hp : Hp}
theorem flm_turn {L gb dj dn : Addr} {kj kn : List (Int × AV)} {f g : Int → Int} {i j blo bhi : Int} {b : Best} (G : Gnd (KW w) B) (hh : A.handled = none)
    (h1 : m (S "i") = some (.int i)) (h2 : m (S "blo") = some (.int blo)) (h3 : m (S "bhi") = some (.int bhi)) (h4 : m (S "j2lenget") = some (.ref gb)) (h5 : m (S "newj2len") = some (.ref dn)) (hb : bestL m b) (hj : m (S "j") = some (.int j))
    (g1 : hp gb = some (.obj (bndOb "dict.get" dj))) (g1L : gb ≠ L) (g2 : hp dj = some (.dict kj)) (g2L : dj ≠ L) (g3 : DI kj f) (g4 : hp dn = some (.dict kn)) (g4L : dn ≠ L) (g5 : DI kn g) (hlen : kn.length ≤ 999) :
    EXs (model PW w) A (fun _ _ => False) B (callEnv fdFlm L 196) (match flmI with | .For _ _ b _ _ => b | _ => []) m hp fun fl m' hp' => (∀ y, y ≠ "k" → y ≠ "besti" → y ≠ "bestj" → y ≠ "bestsize" → m' (S y) = m (S y)) ∧
      (fl = .cont ∧ j < blo ∧ m' = m ∧ hp' = hp ∨ fl = .brk ∧ ¬ j < blo ∧ j ≥ bhi ∧ m' = m ∧ hp' = hp ∨
        fl = .next ∧ ¬ j < blo ∧ ¬ j ≥ bhi ∧ bestL m' (innS i f (g, b) j).2 ∧ ∃ kn', kn'.length ≤ kn.length + 1 ∧ hp' = hp.set dn (.dict kn') ∧ DI kn' (innS i f (g, b) j).1) := by
  obtain ⟨b1, b2, b3⟩ := hb
  conv => arg 6; whnf
  refine EXs_cons ?_
  refine EX_If ?_
  refine TST_Compare1 ?_
  refine EV_local (by (first | assumption | (simp only [upd_get, String.reduceEq, if_true, if_false]; done) | (simp only [upd_get, String.reduceEq, if_true, if_false]; first | assumption | rfl))) ?_
  refine EV_local (by (first | assumption | (simp only [upd_get, String.reduceEq, if_true, if_false]; done) | (simp only [upd_get, String.reduceEq, if_true, if_false]; first | assumption | rfl))) ?_
  refine OP_lt ?_
  refine TRU_bool ?_
  by_cases c1 : j < blo
  · rw [decide_eq_true c1, if_pos rfl]
    refine EXs_cons ?_
    refine EX_Continue ?_
    exact ⟨fun _ _ _ _ _ => rfl, .inl ⟨rfl, c1, rfl, rfl⟩⟩
  rw [decide_eq_false c1, if_neg Bool.false_ne_true]
  refine EXs_nil (EXs_cons ?_)
  refine EX_If ?_
  refine TST_Compare1 ?_
  refine EV_local (by (first | assumption | (simp only [upd_get, String.reduceEq, if_true, if_false]; done) | (simp only [upd_get, String.reduceEq, if_true, if_false]; first | assumption | rfl))) ?_
  refine EV_local (by (first | assumption | (simp only [upd_get, String.reduceEq, if_true, if_false]; done) | (simp only [upd_get, String.reduceEq, if_true, if_false]; first | assumption | rfl))) ?_
  refine OP_ge ?_
  refine TRU_bool ?_
  by_cases c2 : j ≥ bhi
  · rw [decide_eq_true (show bhi ≤ j from c2), if_pos rfl]
    refine EXs_cons ?_
    refine EX_Break ?_
    exact ⟨fun _ _ _ _ _ => rfl, .inr (.inl ⟨rfl, c1, c2, rfl, rfl⟩)⟩
  rw [decide_eq_false (show ¬ bhi ≤ j from c2), if_neg Bool.false_ne_true]
  refine EXs_nil (EXs_cons (EX_Assign2 (EV_BinOp (EV_CallBnd (id := "dict.get") (EV_local h4 ⟨gb, dj, rfl, g1L, ?_⟩)))))
  refine EVS_cons ?_
  refine EV_BinOp ?_
  refine EV_local (by (first | assumption | (simp only [upd_get, String.reduceEq, if_true, if_false]; done) | (simp only [upd_get, String.reduceEq, if_true, if_false]; first | assumption | rfl))) ?_
  refine EV_int ?_
  refine OP_sub ?_
  refine EVS_cons ?_
  refine EV_int ?_
  refine EVS_nil ?_
  refine ⟨g1, CL_bget G g1 g1L g2 g2L ?_⟩
  rw [g3 (j - 1)]
  refine EV_int ?_
  refine OP_add ?_
  refine ASG_Name (ASG_ditem ?_)
  refine EV_local (by (first | assumption | (simp only [upd_get, String.reduceEq, if_true, if_false]; done) | (simp only [upd_get, String.reduceEq, if_true, if_false]; first | assumption | rfl))) ?_
  refine EV_local (by (first | assumption | (simp only [upd_get, String.reduceEq, if_true, if_false]; done) | (simp only [upd_get, String.reduceEq, if_true, if_false]; first | assumption | rfl))) ?_
  refine ⟨dn, kn, j, rfl, rfl, g4, g4L, by omega, ?_⟩
  refine EXs_cons ?_
  refine EX_If ?_
  refine TST_Compare1 ?_
  refine EV_local (by (first | assumption | (simp only [upd_get, String.reduceEq, if_true, if_false]; done) | (simp only [upd_get, String.reduceEq, if_true, if_false]; first | assumption | rfl))) ?_
  refine EV_local (by (first | assumption | (simp only [upd_get, String.reduceEq, if_true, if_false]; done) | (simp only [upd_get, String.reduceEq, if_true, if_false]; first | assumption | rfl))) ?_
  refine OP_gt ?_
  refine TRU_bool ?_
  have hD := g5.put j (f (j - 1) + 1)
  by_cases c3 : b.2.2 < f (j - 1) + 1
  · rw [decide_eq_true c3, if_pos rfl]
    refine EXs_cons (EX_AssignSw hh (names := [S "besti", S "bestj", S "bestsize"]) ?_)
    refine EV_Tuple ?_
    refine EVS_cons ?_
    refine EV_BinOp ?_
    refine EV_BinOp ?_
    refine EV_local (by (first | assumption | (simp only [upd_get, String.reduceEq, if_true, if_false]; done) | (simp only [upd_get, String.reduceEq, if_true, if_false]; first | assumption | rfl))) ?_
    refine EV_local (by (first | assumption | (simp only [upd_get, String.reduceEq, if_true, if_false]; done) | (simp only [upd_get, String.reduceEq, if_true, if_false]; first | assumption | rfl))) ?_
    refine OP_sub ?_
    refine EV_int ?_
    refine OP_add ?_
    refine EVS_cons ?_
    refine EV_BinOp ?_
    refine EV_BinOp ?_
    refine EV_local (by (first | assumption | (simp only [upd_get, String.reduceEq, if_true, if_false]; done) | (simp only [upd_get, String.reduceEq, if_true, if_false]; first | assumption | rfl))) ?_
    refine EV_local (by (first | assumption | (simp only [upd_get, String.reduceEq, if_true, if_false]; done) | (simp only [upd_get, String.reduceEq, if_true, if_false]; first | assumption | rfl))) ?_
    refine OP_sub ?_
    refine EV_int ?_
    refine OP_add ?_
    refine EVS_cons ?_
    refine EV_local (by (first | assumption | (simp only [upd_get, String.reduceEq, if_true, if_false]; done) | (simp only [upd_get, String.reduceEq, if_true, if_false]; first | assumption | rfl))) ?_
    refine EVS_nil ?_
    refine ⟨sz rfl, ?_⟩
    refine ⟨_, rfl, rfl, ASGS_bind (ASGS_bind (ASGS_bind (ASGS_nil ?_)))⟩
    refine EXs_nil ?_
    refine EXs_nil ?_
    refine ⟨fun y a1 a2 a3 a4 => by simp only [upd_get, a1, a2, a3, a4, if_false], .inr (.inr ⟨rfl, c1, c2, ?_, dput kn j (.int (f (j - 1) + 1)), dput_len .., rfl, hD⟩)⟩
    have c3' : f (j - 1) + 1 > b.2.2 := c3
    simp only [innS, c3', if_true]
    refine ⟨?_, ?_, ?_⟩ <;> (first | assumption | (simp only [upd_get, String.reduceEq, if_true, if_false]; done) | (simp only [upd_get, String.reduceEq, if_true, if_false]; first | assumption | rfl))
  · rw [decide_eq_false c3, if_neg Bool.false_ne_true]
    refine EXs_nil (EXs_nil ⟨fun y a1 a2 a3 a4 => by simp only [upd_get, a1, if_false], .inr (.inr ⟨rfl, c1, c2, ?_, dput kn j (.int (f (j - 1) + 1)), dput_len .., rfl, hD⟩)⟩)
    have c3' : ¬ (f (j - 1) + 1 > b.2.2) := c3
    simp only [innS, c3', if_false]
    refine ⟨?_, ?_, ?_⟩ <;> (first | assumption | (simp only [upd_get, String.reduceEq, if_true, if_false]; done) | (simp only [upd_get, String.reduceEq, if_true, if_false]; first | assumption | rfl))
end
end Mine

open PySem PySem.W PyProof.Rows PySem.Calls
set_option maxRecDepth 100000
namespace Mine
def fNames : List String := ["j", "k", "besti", "bestj", "bestsize"]
section
variable {w : World} {A : Around} {E : Value → Shared → Prop} {B : Shared} {m : Loc} {hp : Hp}
theorem flm_inner {L gb dj dn d aA nt : Addr} {kj kn : List (Int × AV)} {f g : Int → Int} {J : Int → List Nat} {i blo bhi x : Int} {b : Best} {as : List Int} (G : Gnd (KW w) B) (hh : A.handled = none)
    (h1 : m (S "i") = some (.int i)) (h2 : m (S "blo") = some (.int blo)) (h3 : m (S "bhi") = some (.int bhi)) (h4 : m (S "j2lenget") = some (.ref gb)) (h5 : m (S "newj2len") = some (.ref dn)) (hb : bestL m b) (h6 : m (S "b2j") = some (.ref d)) (h7 : m (S "a") = some (.ref aA)) (h8 : m (S "nothing") = some (.ref nt))
    (g1 : hp gb = some (.obj (bndOb "dict.get" dj))) (g1L : gb ≠ L) (g2 : hp dj = some (.dict kj)) (g2L : dj ≠ L) (g3 : DI kj f) (g4 : hp dn = some (.dict kn)) (g4L : dn ≠ L) (g5 : DI kn g) (hlen : kn = []) (hdd : dn ≠ dj)
    (R : JD hp L d J) (hl : Lst B hp L aA (as.map .int)) (hnt : hp nt = some (.list [])) (hntL : nt ≠ L) (hi : 0 ≤ i) (hx : as[i.toNat]? = some x) (hi2 : i < 2 ^ 62) (hJ : (J x).length ≤ 900) :
    EX (model PW w) A (fun _ _ => False) B (callEnv fdFlm L 196) flmI m hp fun fl m' hp' => fl = .next ∧ (∀ y, y ∉ fNames → m' (S y) = m (S y)) ∧ bestL m' (inner i blo bhi f (J x) (g, b)).2 ∧ ∃ kn', kn'.length ≤ 900 ∧ hp' dn = some (.dict kn') ∧ DI kn' (inner i blo bhi f (J x) (g, b)).1 ∧ (∀ z o, z ≠ dn → hp z = some o → hp' z = some o) := by
  conv => arg 6; whnf
  obtain ⟨kvs, r1, r2, r3, r4⟩ := R.ex
  have src : ∃ a, (dget kvs x).getD (.ref nt) = .ref a ∧ hp a = some (.list ((J x).map fun (i : Nat) => AV.int (i : Int))) ∧ a ≠ L := by
    cases e : dget kvs x with
    | none => exact ⟨nt, rfl, by rw [r3 x e]; exact hnt, hntL⟩
    | some v => obtain ⟨a, rfl, ha, haL⟩ := r4 x v e; exact ⟨a, rfl, ha, haL⟩
  obtain ⟨lA, e1, e2, e3⟩ := src
  have hdl : dn ≠ lA := fun e => by rw [e, e2] at g4; cases g4
  refine EX_ForL hh (EV_bmeth F.slot_dict_get F.type_dict_get F.plainAttrs_dict (EV_local h6 ⟨d, rfl, is_dict r1 r2, EVS_cons (EV_Subscript (EV_local h7 (EV_local h1 (SUB_list hl hi (by omega) (x := .int x) ?_ (EVS_cons (EV_local h8 (EVS_nil (CL_dget G r1 r2 ?_))))))))⟩))
  · rw [List.getElem?_map, hx]; rfl
  rw [e1]
  refine ⟨lA, _, rfl, .own e2 e3, fun it hit hitL => ?_⟩
  have hid : it ≠ dn := Ne.symm (Hp.ne_of g4 hit)
  have hib : bestL m b := hb
  refine ⟨fun k m₂ hp₂ => (∀ y, y ∉ fNames → m₂ (S y) = m (S y)) ∧ ∃ kn' g' b', bestL m₂ b' ∧ kn'.length ≤ k ∧ hp₂ dn = some (.dict kn') ∧ DI kn' g' ∧ (∀ z o, z ≠ dn → hp z = some o → hp₂ z = some o) ∧ inner i blo bhi f ((J x).drop k) (g', b') = inner i blo bhi f (J x) (g, b), fun ob => ?_, fun k m₂ hp₂ ob x => ?_, fun k m₂ hp₂ x => ?_, fun k y m₂ hp₂ ob hy x hob => ?_, fun m₂ hp₂ x => ?_⟩
  · exact ⟨fun _ _ => rfl, kn, g, b, hb, by rw [hlen]; exact Nat.le_refl _, by rw [Hp.set_ne _ _ (Ne.symm hid)]; exact g4, g5, fun z o hz e => by rw [Hp.set_ne _ _ (Hp.ne_of e hit)]; exact e, rfl⟩
  · obtain ⟨x0, kn', g', b', x1, x2, x3, x4, x5, x6⟩ := x
    exact ⟨x0, kn', g', b', x1, x2, by rw [Hp.set_ne _ _ (Ne.symm hid)]; exact x3, x4, fun z o hz e => by rw [Hp.set_ne _ _ (Hp.ne_of e hit)]; exact x5 z o hz e, x6⟩
  · obtain ⟨x0, kn', g', b', x1, x2, x3, x4, x5, x6⟩ := x
    exact .own (x5 _ _ (Ne.symm hdl) e2) e3
  · obtain ⟨x0, kn', g', b', x1, x2, x3, x4, x5, x6⟩ := x
    obtain ⟨j, hjk, rfl⟩ : ∃ j, (J x)[k]? = some j ∧ AV.int (j : Int) = y := by
      rw [List.getElem?_map] at hy
      exact Option.map_eq_some_iff.mp hy
    have hkl : k < (J x).length := (List.getElem?_eq_some_iff.mp hjk).1
    have hdrop : (J x).drop k = j :: (J x).drop (k + 1) := by
      rw [List.drop_eq_getElem_cons hkl]; congr 1
      rw [List.getElem?_eq_getElem hkl] at hjk; exact Option.some.inj hjk
    refine ASG_Name ?_
    have hm' : ∀ y, y ∉ fNames → upd m₂ (S "j") (.int j) (S y) = m (S y) := fun y hy => by
      have : y ≠ "j" := fun e => hy (by rw [e]; decide)
      rw [upd_get, if_neg this]; exact x0 y hy
    have hbl : bestL (upd m₂ (S "j") (.int j)) b' := by obtain ⟨q1, q2, q3⟩ := x1; exact ⟨by (first | assumption | (simp only [upd_get, String.reduceEq, if_true, if_false]; done) | (simp only [upd_get, String.reduceEq, if_true, if_false]; first | assumption | rfl)), by (first | assumption | (simp only [upd_get, String.reduceEq, if_true, if_false]; done) | (simp only [upd_get, String.reduceEq, if_true, if_false]; first | assumption | rfl)), by (first | assumption | (simp only [upd_get, String.reduceEq, if_true, if_false]; done) | (simp only [upd_get, String.reduceEq, if_true, if_false]; first | assumption | rfl))⟩
    refine EXs.mono (flm_turn (A := A) G hh (by rw [hm' _ (by decide)]; exact h1) (by rw [hm' _ (by decide)]; exact h2) (by rw [hm' _ (by decide)]; exact h3) (by rw [hm' _ (by decide)]; exact h4) (by rw [hm' _ (by decide)]; exact h5) hbl (by (first | assumption | (simp only [upd_get, String.reduceEq, if_true, if_false]; done) | (simp only [upd_get, String.reduceEq, if_true, if_false]; first | assumption | rfl)))
      (x5 _ _ (fun e => by rw [e, g4] at g1; cases g1) g1) g1L (x5 _ _ (Ne.symm hdd) g2) g2L g3 x3 g4L x4 (by omega)) ?_
    rintro fl m4 hp4 ⟨y0, y1⟩
    have hm4 : ∀ y, y ∉ fNames → m4 (S y) = m (S y) := fun y hy => by
      have a1 : y ≠ "k" := fun e => hy (by rw [e]; decide)
      have a2 : y ≠ "besti" := fun e => hy (by rw [e]; decide)
      have a3 : y ≠ "bestj" := fun e => hy (by rw [e]; decide)
      have a4 : y ≠ "bestsize" := fun e => hy (by rw [e]; decide)
      rw [y0 y a1 a2 a3 a4]; exact hm' y hy
    rw [hdrop] at x6
    rcases y1 with ⟨rfl, c1, rfl, rfl⟩ | ⟨rfl, c1, c2, rfl, rfl⟩ | ⟨rfl, c1, c2, c3, kn2, c4, rfl, c5⟩
    · refine ⟨⟨hm4, kn', g', b', hbl, by omega, x3, x4, x5, ?_⟩, hob⟩
      rw [← x6, inner, if_pos c1]
    · refine ⟨rfl, hm4, ?_, kn', by omega, x3, ?_, x5⟩
      · rw [← x6, inner, if_neg c1, if_pos c2]; exact hbl
      · rw [← x6, inner, if_neg c1, if_pos c2]; exact x4
    · refine ⟨⟨hm4, kn2, _, _, c3, by omega, Hp.set_same .., c5, fun z o hz e => by rw [Hp.set_ne _ _ hz]; exact x5 z o hz e, ?_⟩, by rw [Hp.set_ne _ _ hid]; exact hob⟩
      rw [← x6, inner, if_neg c1, if_neg c2]
  · obtain ⟨x0, kn', g', b', x1, x2, x3, x4, x5, x6⟩ := x
    rw [List.length_map, List.drop_length, inner] at x6
    rw [List.length_map] at x2
    refine ⟨rfl, x0, by rw [← x6]; exact x1, kn', by omega, by rw [Hp.del_ne _ (Ne.symm hid)]; exact x3, by rw [← x6]; exact x4, fun z o hz e => by rw [Hp.del_ne _ (Hp.ne_of e hit)]; exact x5 z o hz e⟩
end
end Mine

open PySem PySem.W PyProof.Rows PySem.Calls
set_option maxRecDepth 100000
namespace Mine
def outS (as : List Int) (J : Int → List Nat) (alo blo bhi : Int) : Nat → FSt
  | 0 => (fun _ => 0, (alo, blo, 0))
  | n + 1 => inner (alo + n) blo bhi (outS as J alo blo bhi n).1 (J (as.getD (alo + n).toNat 0)) (fun _ => 0, (outS as J alo blo bhi n).2)
def oNames : List String := ["i", "j2lenget", "newj2len", "j2len", "j", "k", "besti", "bestj", "bestsize"]
theorem fo {y : String} (h : y ∉ oNames) : y ∉ fNames := fun e => h (by
  simp only [fNames, List.mem_cons, List.not_mem_nil, or_false] at e
  simp only [oNames, List.mem_cons, List.not_mem_nil, or_false]
  rcases e with e | e | e | e | e <;> simp [e])
section
variable {w : World} {A : Around} {E : Value → Shared → Prop} {B : Shared} {m : Loc} {hp : Hp}
theorem flm_outer {L d aA nt d0 : Addr} {J : Int → List Nat} {alo ahi blo bhi : Int} {as : List Int} (G : Gnd (KW w) B) (hh : A.handled = none)
    (h1 : m (S "alo") = some (.int alo)) (h1' : m (S "ahi") = some (.int ahi)) (h2 : m (S "blo") = some (.int blo)) (h3 : m (S "bhi") = some (.int bhi)) (hb : bestL m (alo, blo, 0)) (h6 : m (S "b2j") = some (.ref d)) (h7 : m (S "a") = some (.ref aA)) (h8 : m (S "nothing") = some (.ref nt)) (h9 : m (S "j2len") = some (.ref d0))
    (g2 : hp d0 = some (.dict [])) (g2L : d0 ≠ L) (R : JD hp L d J) (hl : Lst B hp L aA (as.map .int)) (hnt : hp nt = some (.list [])) (hntL : nt ≠ L) (ha0 : 0 ≤ alo) (ha1 : ahi ≤ as.length) (ha2 : alo < 2 ^ 62) (hal : as.length ≤ 1000) (hal2 : -(2 ^ 62) ≤ ahi) (hJ : ∀ x, (J x).length ≤ 900) :
    EX (model PW w) A (fun _ _ => False) B (callEnv fdFlm L 196) (flmS 7) m hp fun fl m' hp' => fl = .next ∧ (∀ y, y ∉ oNames → m' (S y) = m (S y)) ∧ bestL m' (outS as J alo blo bhi (ahi - alo).toNat).2 ∧ Hp.Le hp hp' := by
  conv => arg 6; whnf
  refine EX_ForR hh (EV_CallT (EV_blt G (no_range w) blt_range (by decide) (fun _ => VR_ty) ⟨rfl, EVS_cons (EV_local h1 (EVS_cons (EV_local h1' (EVS_nil (CL_range2 fun r ob hr hrL ro => ?_)))))⟩))
  refine ⟨r, ob, alo, ahi, rfl, Hp.set_same .., hrL, ro, by omega, ha2, hal2, by omega, fun it hit hitL => ?_⟩
  have hle1 : Hp.Le hp (hp.set r (.obj ob)) := (Hp.Le.refl _).set hr _
  have hit' : hp it = none := hle1.none hit
  refine ⟨fun n m₂ hp₂ => (∀ y, y ∉ oNames → m₂ (S y) = m (S y)) ∧ bestL m₂ (outS as J alo blo bhi n).2 ∧ Hp.Le hp hp₂ ∧ ∃ dj kj, m₂ (S "j2len") = some (.ref dj) ∧ hp₂ dj = some (.dict kj) ∧ dj ≠ L ∧ dj ≠ it ∧ DI kj (outS as J alo blo bhi n).1, fun ob' => ?_, fun n m₂ hp₂ ob' x => ?_, fun n m₂ hp₂ ob' hn x hob => ?_, fun m₂ hp₂ x => ?_⟩
  · have hd0 : d0 ≠ it := Hp.ne_of (hle1 _ _ g2) hit
    refine ⟨fun _ _ => rfl, hb, hle1.set hit' _, d0, [], h9, by rw [Hp.set_ne _ _ hd0]; exact hle1 _ _ g2, g2L, hd0, fun k => rfl⟩
  · obtain ⟨x0, x1, x2, dj, kj, x3, x4, x5, x6, x7⟩ := x
    exact ⟨x0, x1, x2.set hit' _, dj, kj, x3, by rw [Hp.set_ne _ _ x6]; exact x4, x5, x6, x7⟩
  · obtain ⟨x0, x1, x2, dj, kj, x3, x4, x5, x6, x7⟩ := x
    obtain ⟨b1, b2, b3⟩ := x1
    refine ASG_Name ?_
    generalize hm1 : upd m₂ _ _ = m1
    have q0 : ∀ y, y ∉ oNames → m1 (S y) = m (S y) := fun y hy => by
      subst hm1
      have : y ≠ "i" := fun e => hy (by rw [e]; decide)
      rw [upd_get, if_neg this]; exact x0 y hy
    have q1 : m1 (S "i") = some (.int (alo + n)) := by subst hm1; (first | assumption | (simp only [upd_get, String.reduceEq, if_true, if_false]; done) | (simp only [upd_get, String.reduceEq, if_true, if_false]; first | assumption | rfl))
    have q2 : bestL m1 (outS as J alo blo bhi n).2 := by subst hm1; exact ⟨by (first | assumption | (simp only [upd_get, String.reduceEq, if_true, if_false]; done) | (simp only [upd_get, String.reduceEq, if_true, if_false]; first | assumption | rfl)), by (first | assumption | (simp only [upd_get, String.reduceEq, if_true, if_false]; done) | (simp only [upd_get, String.reduceEq, if_true, if_false]; first | assumption | rfl)), by (first | assumption | (simp only [upd_get, String.reduceEq, if_true, if_false]; done) | (simp only [upd_get, String.reduceEq, if_true, if_false]; first | assumption | rfl))⟩
    have q3 : m1 (S "j2len") = some (.ref dj) := by subst hm1; (first | assumption | (simp only [upd_get, String.reduceEq, if_true, if_false]; done) | (simp only [upd_get, String.reduceEq, if_true, if_false]; first | assumption | rfl))
    clear hm1 b1 b2 b3 x0 x3
    refine EXs_cons (EX_Assign (EV_attrB bnd_dget (fun ho hc h => mdg_run_dget ho hc h) (EV_local q3 ⟨dj, rfl, is_dict' x4 x5, fun gb hgb hgbL => ?_⟩)))
    refine EXs_cons (EX_Assign (EV_dictE fun dn hdn hdnL => ?_))
    have hle2 : Hp.Le hp₂ ((hp₂.set gb (.obj (bndOb "dict.get" dj))).set dn (.dict [])) := ((Hp.Le.refl _).set hgb _).set (((Hp.Le.refl hp₂).set hgb _).none hdn) _
    have hgn : gb ≠ dn := Hp.ne_of (Hp.set_same ..) hdn
    have hdnd : dn ≠ dj := Ne.symm (Hp.ne_of (((Hp.Le.refl hp₂).set hgb (.obj (bndOb "dict.get" dj))) _ _ x4) hdn)
    have hidn : it ≠ dn := Hp.ne_of (((Hp.Le.refl hp₂).set hgb (.obj (bndOb "dict.get" dj))) _ _ hob) hdn
    generalize hm2 : upd (upd m1 _ _) _ _ = m2
    have p0 : ∀ y, y ∉ oNames → m2 (S y) = m (S y) := fun y hy => by
      subst hm2
      have a1 : y ≠ "j2lenget" := fun e => hy (by rw [e]; decide)
      have a2 : y ≠ "newj2len" := fun e => hy (by rw [e]; decide)
      simp only [upd_get, a1, a2, if_false]; exact q0 y hy
    have p1 : m2 (S "i") = some (.int (alo + n)) := by subst hm2; (first | assumption | (simp only [upd_get, String.reduceEq, if_true, if_false]; done) | (simp only [upd_get, String.reduceEq, if_true, if_false]; first | assumption | rfl))
    have p2 : bestL m2 (outS as J alo blo bhi n).2 := by obtain ⟨b1, b2, b3⟩ := q2; subst hm2; exact ⟨by (first | assumption | (simp only [upd_get, String.reduceEq, if_true, if_false]; done) | (simp only [upd_get, String.reduceEq, if_true, if_false]; first | assumption | rfl)), by (first | assumption | (simp only [upd_get, String.reduceEq, if_true, if_false]; done) | (simp only [upd_get, String.reduceEq, if_true, if_false]; first | assumption | rfl)), by (first | assumption | (simp only [upd_get, String.reduceEq, if_true, if_false]; done) | (simp only [upd_get, String.reduceEq, if_true, if_false]; first | assumption | rfl))⟩
    have p3 : m2 (S "j2lenget") = some (.ref gb) := by subst hm2; (first | assumption | (simp only [upd_get, String.reduceEq, if_true, if_false]; done) | (simp only [upd_get, String.reduceEq, if_true, if_false]; first | assumption | rfl))
    have p4 : m2 (S "newj2len") = some (.ref dn) := by subst hm2; (first | assumption | (simp only [upd_get, String.reduceEq, if_true, if_false]; done) | (simp only [upd_get, String.reduceEq, if_true, if_false]; first | assumption | rfl))
    clear hm2 q0 q1 q2 q3
    have hng : alo + n < ahi := by omega
    have hidx : as[(alo + (n : Int)).toNat]? = some (as.getD (alo + n).toNat 0) := by
      have : (alo + (n : Int)).toNat < as.length := by omega
      simp [List.getD, List.getElem?_eq_getElem this]
    have hle3 := x2.trans hle2
    refine EXs_seq (fun m' hp' => (∀ y, y ∉ fNames → m' (S y) = m2 (S y)) ∧ bestL m' (outS as J alo blo bhi (n + 1)).2 ∧ ∃ kn', hp' dn = some (.dict kn') ∧ DI kn' (outS as J alo blo bhi (n + 1)).1 ∧ (∀ z o, z ≠ dn → ((hp₂.set gb (.obj (bndOb "dict.get" dj))).set dn (.dict [])) z = some o → hp' z = some o)) ?_ ?_
    · refine EX.mono (flm_inner (A := A) (kn := []) (g := fun _ => 0) (x := as.getD (alo + n).toNat 0) (as := as) G hh p1 (by rw [p0 _ (by decide)]; exact h2) (by rw [p0 _ (by decide)]; exact h3) p3 p4 p2 (by rw [p0 _ (by decide)]; exact h6) (by rw [p0 _ (by decide)]; exact h7) (by rw [p0 _ (by decide)]; exact h8)
        (by rw [Hp.set_ne _ _ hgn, Hp.set_same]) hgbL (hle2 _ _ x4) x5 x7 (Hp.set_same ..) hdnL (fun k => rfl) rfl hdnd (R.le hle3) (hl.le hle3) (hle3 _ _ hnt) hntL (by omega) hidx (by omega) (hJ _)) ?_
      rintro fl m' hp' ⟨rfl, y1, y2, kn', y3, y4, y5, y6⟩
      exact ⟨rfl, y1, y2, kn', y4, y5, y6⟩
    rintro m3 hp3 ⟨y1, y2, kn', y4, y5, y6⟩
    obtain ⟨b1, b2, b3⟩ := y2
    have hnb : hp dn = none := x2.none (((Hp.Le.refl hp₂).set hgb (.obj (bndOb "dict.get" dj))).none hdn)
    have y7 : m3 (S "newj2len") = some (.ref dn) := by rw [y1 _ (by decide)]; exact p4
    refine EXs_cons ?_
    refine EX_Assign ?_
    refine EV_local (by (first | assumption | (simp only [upd_get, String.reduceEq, if_true, if_false]; done) | (simp only [upd_get, String.reduceEq, if_true, if_false]; first | assumption | rfl))) ?_
    refine EXs_nil ?_
    refine ⟨⟨fun y hy => ?_, ⟨by (first | assumption | (simp only [upd_get, String.reduceEq, if_true, if_false]; done) | (simp only [upd_get, String.reduceEq, if_true, if_false]; first | assumption | rfl)), by (first | assumption | (simp only [upd_get, String.reduceEq, if_true, if_false]; done) | (simp only [upd_get, String.reduceEq, if_true, if_false]; first | assumption | rfl)), by (first | assumption | (simp only [upd_get, String.reduceEq, if_true, if_false]; done) | (simp only [upd_get, String.reduceEq, if_true, if_false]; first | assumption | rfl))⟩, fun z o hz => ?_, dn, kn', ?_, y4, hdnL, Ne.symm hidn, y5⟩, ?_⟩
    · have a1 : y ≠ "j2len" := fun e => hy (by rw [e]; decide)
      rw [upd_get, if_neg a1, y1 y (fo hy)]; exact p0 y hy
    · have hzn : z ≠ dn := fun e => by rw [e, hnb] at hz; cases hz
      exact y6 z o hzn (hle3 _ _ hz)
    · (first | assumption | (simp only [upd_get, String.reduceEq, if_true, if_false]; done) | (simp only [upd_get, String.reduceEq, if_true, if_false]; first | assumption | rfl))
    · exact y6 _ _ hidn (hle2 _ _ hob)
  · obtain ⟨x0, x1, x2, dj, kj, x3, x4, x5, x6, x7⟩ := x
    exact ⟨rfl, x0, x1, x2.del hit'⟩
end
end Mine

open PySem PySem.W PyProof.Rows PySem.Calls
set_option maxRecDepth 100000
namespace Mine
def cnd (as bs : List Int) (fj : Int → Bool) (want : Bool) (p q : Int) : Bool := (fj (bs.getD q.toNat 0) == want) && (as.getD p.toNat 0 == bs.getD q.toNat 0)
def down (c : Int → Int → Bool) (alo blo : Int) : Nat → Best → Best
  | 0, b => b
  | n + 1, b => if b.1 > alo ∧ b.2.1 > blo ∧ c (b.1 - 1) (b.2.1 - 1) = true then down c alo blo n (b.1 - 1, b.2.1 - 1, b.2.2 + 1) else b
def up (c : Int → Int → Bool) (ahi bhi : Int) : Nat → Best → Best
  | 0, b => b
  | n + 1, b => if b.1 + b.2.2 < ahi ∧ b.2.1 + b.2.2 < bhi ∧ c (b.1 + b.2.2) (b.2.1 + b.2.2) = true then up c ahi bhi n (b.1, b.2.1, b.2.2 + 1) else b
def downAll (c : Int → Int → Bool) (alo blo : Int) (b : Best) : Best := down c alo blo (b.1 - alo).toNat b
def upAll (c : Int → Int → Bool) (ahi bhi : Int) (b : Best) : Best := up c ahi bhi (ahi - (b.1 + b.2.2)).toNat b
def flmF (as bs : List Int) (J : Int → List Nat) (fj : Int → Bool) (alo ahi blo bhi : Int) : Best :=
  upAll (cnd as bs fj true) ahi bhi (downAll (cnd as bs fj true) alo blo (upAll (cnd as bs fj false) ahi bhi (downAll (cnd as bs fj false) alo blo (outS as J alo blo bhi (ahi - alo).toNat).2)))
structure InB (as bs : List Int) (alo blo : Int) (b : Best) : Prop where
  a0 : alo ≤ b.1
  b0 : blo ≤ b.2.1
  k0 : 0 ≤ b.2.2
  a1 : b.1 > alo → b.1 ≤ as.length
  b1 : b.2.1 > blo → b.2.1 ≤ bs.length
theorem InB.down {as bs : List Int} {alo blo : Int} {c : Int → Int → Bool} : ∀ {n : Nat} {b : Best}, InB as bs alo blo b → InB as bs alo blo (Mine.down c alo blo n b)
  | 0, b, h => h
  | n + 1, b, h => by
    unfold Mine.down
    split
    · rename_i hc
      refine InB.down ⟨?_, ?_, ?_, ?_, ?_⟩
      · show alo ≤ b.1 - 1; omega
      · show blo ≤ b.2.1 - 1; omega
      · have := h.k0; show 0 ≤ b.2.2 + 1; omega
      · have := h.a1 hc.1; intro _; show b.1 - 1 ≤ _; omega
      · have := h.b1 hc.2.1; intro _; show b.2.1 - 1 ≤ _; omega
    · exact h
theorem InB.up {as bs : List Int} {alo blo ahi bhi : Int} {c : Int → Int → Bool} : ∀ {n : Nat} {b : Best}, InB as bs alo blo b → InB as bs alo blo (Mine.up c ahi bhi n b)
  | 0, b, h => h
  | n + 1, b, h => by
    unfold Mine.up
    split
    · refine InB.up ⟨h.a0, h.b0, ?_, h.a1, h.b1⟩
      have := h.k0; show 0 ≤ b.2.2 + 1; omega
    · exact h
def wNames : List String := ["besti", "bestj", "bestsize"]
section
variable {w : World} {A : Around} {E : Value → Shared → Prop} {B : Shared} {m : Loc} {hp : Hp}
structure FL (B : Shared) (hp : Hp) (L aA bA ib j : Addr) (as bs : List Int) (fj : Int → Bool) (nj : Nat) (alo ahi blo bhi : Int) (m : Loc) : Prop where
  h1 : m (S "alo") = some (.int alo)
  h2 : m (S "ahi") = some (.int ahi)
  h3 : m (S "blo") = some (.int blo)
  h4 : m (S "bhi") = some (.int bhi)
  h5 : m (S "a") = some (.ref aA)
  h6 : m (S "b") = some (.ref bA)
  h7 : m (S "isbjunk") = some (.ref ib)
  l1 : Lst B hp L aA (as.map .int)
  l2 : Lst B hp L bA (bs.map .int)
  i1 : hp ib = some (.obj (bndOb "set.__contains__" j))
  i1L : ib ≠ L
  i2 : hp j = some (.set fj nj)
  i2L : j ≠ L
  r1 : 0 ≤ alo
  r2 : 0 ≤ blo
  r3 : ahi ≤ as.length
  r4 : bhi ≤ bs.length
  r5 : as.length ≤ 1000
  r6 : bs.length ≤ 1000
theorem FL.upd {L aA bA ib j : Addr} {as bs : List Int} {fj : Int → Bool} {nj : Nat} {alo ahi blo bhi : Int} (F : FL B hp L aA bA ib j as bs fj nj alo ahi blo bhi m) {m' : Loc} (h : ∀ y, y ∉ wNames → m' (S y) = m (S y)) : FL B hp L aA bA ib j as bs fj nj alo ahi blo bhi m' :=
  { F with h1 := by rw [h _ (by decide)]; exact F.h1, h2 := by rw [h _ (by decide)]; exact F.h2, h3 := by rw [h _ (by decide)]; exact F.h3, h4 := by rw [h _ (by decide)]; exact F.h4, h5 := by rw [h _ (by decide)]; exact F.h5, h6 := by rw [h _ (by decide)]; exact F.h6, h7 := by rw [h _ (by decide)]; exact F.h7 }
theorem getD_some {l : List Int} {i : Int} (h0 : 0 ≤ i) (h1 : i < l.length) : (l.map AV.int)[i.toNat]? = some (.int (l.getD i.toNat 0)) := by
  have : i.toNat < l.length := by omega
  simp [List.getD, List.getElem?_eq_getElem this]
theorem flm_w1 {L aA bA ib j : Addr} {as bs : List Int} {fj : Int → Bool} {nj : Nat} {alo ahi blo bhi : Int} {b : Best} (hh : A.handled = none) (F : FL B hp L aA bA ib j as bs fj nj alo ahi blo bhi m) (hb : bestL m b) (I : InB as bs alo blo b) :
    EX (model PW w) A (fun _ _ => False) B (callEnv fdFlm L 196) (flmS 8) m hp fun fl m' hp' => fl = .next ∧ hp' = hp ∧ (∀ y, y ∉ wNames → m' (S y) = m (S y)) ∧ bestL m' (downAll (cnd as bs fj false) alo blo b) := by
  conv => arg 6; whnf
  refine EX_While (fun n m₂ hp₂ => hp₂ = hp ∧ (∀ y, y ∉ wNames → m₂ (S y) = m (S y)) ∧ ∃ b', bestL m₂ b' ∧ InB as bs alo blo b' ∧ n = (b'.1 - alo).toNat ∧ down (cnd as bs fj false) alo blo n b' = downAll (cnd as bs fj false) alo blo b) (b.1 - alo).toNat ⟨rfl, fun _ _ => rfl, b, hb, I, rfl, rfl⟩ ?_
  rintro n m₂ hp₂ ⟨rfl, x0, b', ⟨b1, b2, b3⟩, I', rfl, x1⟩
  have F' := F.upd x0
  obtain ⟨h1, h2, h3, h4, h5, h6, h7, l1, l2, i1, i1L, i2, i2L, r1, r2, r3, r4, r5, r6⟩ := F'
  have leave : ¬ (b'.1 > alo ∧ b'.2.1 > blo ∧ cnd as bs fj false (b'.1 - 1) (b'.2.1 - 1) = true) → (AF.next = AF.next ∧ hp₂ = hp₂ ∧ (∀ y, y ∉ wNames → m₂ (S y) = m (S y)) ∧ bestL m₂ (downAll (cnd as bs fj false) alo blo b)) := fun hc => by
    refine ⟨rfl, rfl, x0, ?_⟩
    rw [← x1]
    cases hn : (b'.1 - alo).toNat with
    | zero => exact ⟨b1, b2, b3⟩
    | succ k => unfold down; rw [if_neg hc]; exact ⟨b1, b2, b3⟩
  refine TST_BoolOp ?_
  refine ALLT_And_cons ?_
  refine TST_Compare1 ?_
  refine EV_local (by (first | assumption | (simp only [upd_get, String.reduceEq, if_true, if_false]; done) | (simp only [upd_get, String.reduceEq, if_true, if_false]; first | assumption | rfl))) ?_
  refine EV_local (by (first | assumption | (simp only [upd_get, String.reduceEq, if_true, if_false]; done) | (simp only [upd_get, String.reduceEq, if_true, if_false]; first | assumption | rfl))) ?_
  refine OP_gt ?_
  refine TRU_bool ?_
  by_cases c1 : alo < b'.1
  · rw [decide_eq_true c1, if_pos rfl]
    refine ALLT_And_cons ?_
    refine TST_Compare1 ?_
    refine EV_local (by (first | assumption | (simp only [upd_get, String.reduceEq, if_true, if_false]; done) | (simp only [upd_get, String.reduceEq, if_true, if_false]; first | assumption | rfl))) ?_
    refine EV_local (by (first | assumption | (simp only [upd_get, String.reduceEq, if_true, if_false]; done) | (simp only [upd_get, String.reduceEq, if_true, if_false]; first | assumption | rfl))) ?_
    refine OP_gt ?_
    refine TRU_bool ?_
    by_cases c2 : blo < b'.2.1
    · rw [decide_eq_true c2, if_pos rfl]
      have ha := I'.a1 c1
      have hb' := I'.b1 c2
      refine ALLT_And_cons (TST_Not (TST_value (EV_CallBnd (id := "set.__contains__") (EV_local h7 ⟨ib, j, rfl, i1L, ?_⟩))))
      refine EVS_cons ?_
      refine EV_Subscript ?_
      refine EV_local (by (first | assumption | (simp only [upd_get, String.reduceEq, if_true, if_false]; done) | (simp only [upd_get, String.reduceEq, if_true, if_false]; first | assumption | rfl))) ?_
      refine EV_BinOp ?_
      refine EV_local (by (first | assumption | (simp only [upd_get, String.reduceEq, if_true, if_false]; done) | (simp only [upd_get, String.reduceEq, if_true, if_false]; first | assumption | rfl))) ?_
      refine EV_int ?_
      refine OP_sub ?_
      refine SUB_list l2 (by omega) (by omega) (getD_some (by omega) (by omega)) ?_
      refine EVS_nil ?_
      refine ⟨i1, CL_bin i1 i1L i2 i2L ?_⟩
      refine TRU_bool ?_
      cases c3 : fj (bs.getD (b'.2.1 - 1).toNat 0) with
      | true =>
        rw [show (!true) = false from rfl, if_neg Bool.false_ne_true, if_neg Bool.false_ne_true]
        exact leave (fun h => by have := h.2.2; unfold cnd at this; rw [c3] at this; simp at this)
      | false =>
        rw [show (!false) = true from rfl, if_pos rfl]
        refine ALLT_And_cons ?_
        refine TST_Compare1 ?_
        refine EV_Subscript ?_
        refine EV_local (by (first | assumption | (simp only [upd_get, String.reduceEq, if_true, if_false]; done) | (simp only [upd_get, String.reduceEq, if_true, if_false]; first | assumption | rfl))) ?_
        refine EV_BinOp ?_
        refine EV_local (by (first | assumption | (simp only [upd_get, String.reduceEq, if_true, if_false]; done) | (simp only [upd_get, String.reduceEq, if_true, if_false]; first | assumption | rfl))) ?_
        refine EV_int ?_
        refine OP_sub ?_
        refine SUB_list l1 (by omega) (by omega) (getD_some (by omega) (by omega)) ?_
        refine EV_Subscript ?_
        refine EV_local (by (first | assumption | (simp only [upd_get, String.reduceEq, if_true, if_false]; done) | (simp only [upd_get, String.reduceEq, if_true, if_false]; first | assumption | rfl))) ?_
        refine EV_BinOp ?_
        refine EV_local (by (first | assumption | (simp only [upd_get, String.reduceEq, if_true, if_false]; done) | (simp only [upd_get, String.reduceEq, if_true, if_false]; first | assumption | rfl))) ?_
        refine EV_int ?_
        refine OP_sub ?_
        refine SUB_list l2 (by omega) (by omega) (getD_some (by omega) (by omega)) ?_
        refine OP_eq ?_
        refine TRU_bool ?_
        cases c4 : (as.getD (b'.1 - 1).toNat 0 == bs.getD (b'.2.1 - 1).toNat 0) with
        | false =>
          rw [if_neg Bool.false_ne_true, if_neg Bool.false_ne_true]
          exact leave (fun h => by have := h.2.2; unfold cnd at this; rw [c4] at this; simp at this)
        | true =>
          rw [if_pos rfl]
          refine ALLT_And_nil ?_
          rw [if_pos rfl]
          refine EXs_cons (EX_AssignSw hh (names := [S "besti", S "bestj", S "bestsize"]) ?_)
          refine EV_Tuple ?_
          refine EVS_cons ?_
          refine EV_BinOp ?_
          refine EV_local (by (first | assumption | (simp only [upd_get, String.reduceEq, if_true, if_false]; done) | (simp only [upd_get, String.reduceEq, if_true, if_false]; first | assumption | rfl))) ?_
          refine EV_int ?_
          refine OP_sub ?_
          refine EVS_cons ?_
          refine EV_BinOp ?_
          refine EV_local (by (first | assumption | (simp only [upd_get, String.reduceEq, if_true, if_false]; done) | (simp only [upd_get, String.reduceEq, if_true, if_false]; first | assumption | rfl))) ?_
          refine EV_int ?_
          refine OP_sub ?_
          refine EVS_cons ?_
          refine EV_BinOp ?_
          refine EV_local (by (first | assumption | (simp only [upd_get, String.reduceEq, if_true, if_false]; done) | (simp only [upd_get, String.reduceEq, if_true, if_false]; first | assumption | rfl))) ?_
          refine EV_int ?_
          refine OP_add ?_
          refine EVS_nil ?_
          refine ⟨sz rfl, ?_⟩
          refine ⟨_, rfl, rfl, ASGS_bind (ASGS_bind (ASGS_bind (ASGS_nil ?_)))⟩
          refine EXs_nil ?_
          have hc : b'.1 > alo ∧ b'.2.1 > blo ∧ cnd as bs fj false (b'.1 - 1) (b'.2.1 - 1) = true := ⟨c1, c2, by unfold cnd; rw [c3, c4]; rfl⟩
          refine ⟨(b'.1 - 1 - alo).toNat, by omega, rfl, fun y hy => ?_, (b'.1 - 1, b'.2.1 - 1, b'.2.2 + 1), ⟨by (first | assumption | (simp only [upd_get, String.reduceEq, if_true, if_false]; done) | (simp only [upd_get, String.reduceEq, if_true, if_false]; first | assumption | rfl)), by (first | assumption | (simp only [upd_get, String.reduceEq, if_true, if_false]; done) | (simp only [upd_get, String.reduceEq, if_true, if_false]; first | assumption | rfl)), by (first | assumption | (simp only [upd_get, String.reduceEq, if_true, if_false]; done) | (simp only [upd_get, String.reduceEq, if_true, if_false]; first | assumption | rfl))⟩, ?_, rfl, ?_⟩
          · have a1 : y ≠ "besti" := fun e => hy (by rw [e]; decide)
            have a2 : y ≠ "bestj" := fun e => hy (by rw [e]; decide)
            have a3 : y ≠ "bestsize" := fun e => hy (by rw [e]; decide)
            simp only [upd_get, a1, a2, a3, if_false]; exact x0 y hy
          · have := I'.k0
            exact ⟨by show alo ≤ b'.1 - 1; omega, by show blo ≤ b'.2.1 - 1; omega, by show 0 ≤ b'.2.2 + 1; omega, fun _ => by show b'.1 - 1 ≤ _; omega, fun _ => by show b'.2.1 - 1 ≤ _; omega⟩
          · rw [← x1]
            have e : (b'.1 - alo).toNat = (b'.1 - 1 - alo).toNat + 1 := by omega
            rw [e]
            conv => rhs; unfold down
            rw [if_pos hc]
    · rw [decide_eq_false c2, if_neg Bool.false_ne_true, if_neg Bool.false_ne_true]
      exact leave (fun h => c2 h.2.1)
  · rw [decide_eq_false c1, if_neg Bool.false_ne_true, if_neg Bool.false_ne_true]
    exact leave (fun h => c1 h.1)
theorem flm_w3 {L aA bA ib j : Addr} {as bs : List Int} {fj : Int → Bool} {nj : Nat} {alo ahi blo bhi : Int} {b : Best} (hh : A.handled = none) (F : FL B hp L aA bA ib j as bs fj nj alo ahi blo bhi m) (hb : bestL m b) (I : InB as bs alo blo b) :
    EX (model PW w) A (fun _ _ => False) B (callEnv fdFlm L 196) (flmS 10) m hp fun fl m' hp' => fl = .next ∧ hp' = hp ∧ (∀ y, y ∉ wNames → m' (S y) = m (S y)) ∧ bestL m' (downAll (cnd as bs fj true) alo blo b) := by
  conv => arg 6; whnf
  refine EX_While (fun n m₂ hp₂ => hp₂ = hp ∧ (∀ y, y ∉ wNames → m₂ (S y) = m (S y)) ∧ ∃ b', bestL m₂ b' ∧ InB as bs alo blo b' ∧ n = (b'.1 - alo).toNat ∧ down (cnd as bs fj true) alo blo n b' = downAll (cnd as bs fj true) alo blo b) (b.1 - alo).toNat ⟨rfl, fun _ _ => rfl, b, hb, I, rfl, rfl⟩ ?_
  rintro n m₂ hp₂ ⟨rfl, x0, b', ⟨b1, b2, b3⟩, I', rfl, x1⟩
  have F' := F.upd x0
  obtain ⟨h1, h2, h3, h4, h5, h6, h7, l1, l2, i1, i1L, i2, i2L, r1, r2, r3, r4, r5, r6⟩ := F'
  have leave : ¬ (b'.1 > alo ∧ b'.2.1 > blo ∧ cnd as bs fj true (b'.1 - 1) (b'.2.1 - 1) = true) → (AF.next = AF.next ∧ hp₂ = hp₂ ∧ (∀ y, y ∉ wNames → m₂ (S y) = m (S y)) ∧ bestL m₂ (downAll (cnd as bs fj true) alo blo b)) := fun hc => by
    refine ⟨rfl, rfl, x0, ?_⟩
    rw [← x1]
    cases hn : (b'.1 - alo).toNat with
    | zero => exact ⟨b1, b2, b3⟩
    | succ k => unfold down; rw [if_neg hc]; exact ⟨b1, b2, b3⟩
  refine TST_BoolOp ?_
  refine ALLT_And_cons ?_
  refine TST_Compare1 ?_
  refine EV_local (by (first | assumption | (simp only [upd_get, String.reduceEq, if_true, if_false]; done) | (simp only [upd_get, String.reduceEq, if_true, if_false]; first | assumption | rfl))) ?_
  refine EV_local (by (first | assumption | (simp only [upd_get, String.reduceEq, if_true, if_false]; done) | (simp only [upd_get, String.reduceEq, if_true, if_false]; first | assumption | rfl))) ?_
  refine OP_gt ?_
  refine TRU_bool ?_
  by_cases c1 : alo < b'.1
  · rw [decide_eq_true c1, if_pos rfl]
    refine ALLT_And_cons ?_
    refine TST_Compare1 ?_
    refine EV_local (by (first | assumption | (simp only [upd_get, String.reduceEq, if_true, if_false]; done) | (simp only [upd_get, String.reduceEq, if_true, if_false]; first | assumption | rfl))) ?_
    refine EV_local (by (first | assumption | (simp only [upd_get, String.reduceEq, if_true, if_false]; done) | (simp only [upd_get, String.reduceEq, if_true, if_false]; first | assumption | rfl))) ?_
    refine OP_gt ?_
    refine TRU_bool ?_
    by_cases c2 : blo < b'.2.1
    · rw [decide_eq_true c2, if_pos rfl]
      have ha := I'.a1 c1
      have hb' := I'.b1 c2
      refine ALLT_And_cons (TST_value (EV_CallBnd (id := "set.__contains__") (EV_local h7 ⟨ib, j, rfl, i1L, ?_⟩)))
      refine EVS_cons ?_
      refine EV_Subscript ?_
      refine EV_local (by (first | assumption | (simp only [upd_get, String.reduceEq, if_true, if_false]; done) | (simp only [upd_get, String.reduceEq, if_true, if_false]; first | assumption | rfl))) ?_
      refine EV_BinOp ?_
      refine EV_local (by (first | assumption | (simp only [upd_get, String.reduceEq, if_true, if_false]; done) | (simp only [upd_get, String.reduceEq, if_true, if_false]; first | assumption | rfl))) ?_
      refine EV_int ?_
      refine OP_sub ?_
      refine SUB_list l2 (by omega) (by omega) (getD_some (by omega) (by omega)) ?_
      refine EVS_nil ?_
      refine ⟨i1, CL_bin i1 i1L i2 i2L ?_⟩
      refine TRU_bool ?_
      cases c3 : fj (bs.getD (b'.2.1 - 1).toNat 0) with
      | false =>
        rw [if_neg Bool.false_ne_true, if_neg Bool.false_ne_true]
        exact leave (fun h => by have := h.2.2; unfold cnd at this; rw [c3] at this; simp at this)
      | true =>
        rw [if_pos rfl]
        refine ALLT_And_cons ?_
        refine TST_Compare1 ?_
        refine EV_Subscript ?_
        refine EV_local (by (first | assumption | (simp only [upd_get, String.reduceEq, if_true, if_false]; done) | (simp only [upd_get, String.reduceEq, if_true, if_false]; first | assumption | rfl))) ?_
        refine EV_BinOp ?_
        refine EV_local (by (first | assumption | (simp only [upd_get, String.reduceEq, if_true, if_false]; done) | (simp only [upd_get, String.reduceEq, if_true, if_false]; first | assumption | rfl))) ?_
        refine EV_int ?_
        refine OP_sub ?_
        refine SUB_list l1 (by omega) (by omega) (getD_some (by omega) (by omega)) ?_
        refine EV_Subscript ?_
        refine EV_local (by (first | assumption | (simp only [upd_get, String.reduceEq, if_true, if_false]; done) | (simp only [upd_get, String.reduceEq, if_true, if_false]; first | assumption | rfl))) ?_
        refine EV_BinOp ?_
        refine EV_local (by (first | assumption | (simp only [upd_get, String.reduceEq, if_true, if_false]; done) | (simp only [upd_get, String.reduceEq, if_true, if_false]; first | assumption | rfl))) ?_
        refine EV_int ?_
        refine OP_sub ?_
        refine SUB_list l2 (by omega) (by omega) (getD_some (by omega) (by omega)) ?_
        refine OP_eq ?_
        refine TRU_bool ?_
        cases c4 : (as.getD (b'.1 - 1).toNat 0 == bs.getD (b'.2.1 - 1).toNat 0) with
        | false =>
          rw [if_neg Bool.false_ne_true, if_neg Bool.false_ne_true]
          exact leave (fun h => by have := h.2.2; unfold cnd at this; rw [c4] at this; simp at this)
        | true =>
          rw [if_pos rfl]
          refine ALLT_And_nil ?_
          rw [if_pos rfl]
          refine EXs_cons (EX_AssignSw hh (names := [S "besti", S "bestj", S "bestsize"]) ?_)
          refine EV_Tuple ?_
          refine EVS_cons ?_
          refine EV_BinOp ?_
          refine EV_local (by (first | assumption | (simp only [upd_get, String.reduceEq, if_true, if_false]; done) | (simp only [upd_get, String.reduceEq, if_true, if_false]; first | assumption | rfl))) ?_
          refine EV_int ?_
          refine OP_sub ?_
          refine EVS_cons ?_
          refine EV_BinOp ?_
          refine EV_local (by (first | assumption | (simp only [upd_get, String.reduceEq, if_true, if_false]; done) | (simp only [upd_get, String.reduceEq, if_true, if_false]; first | assumption | rfl))) ?_
          refine EV_int ?_
          refine OP_sub ?_
          refine EVS_cons ?_
          refine EV_BinOp ?_
          refine EV_local (by (first | assumption | (simp only [upd_get, String.reduceEq, if_true, if_false]; done) | (simp only [upd_get, String.reduceEq, if_true, if_false]; first | assumption | rfl))) ?_
          refine EV_int ?_
          refine OP_add ?_
          refine EVS_nil ?_
          refine ⟨sz rfl, ?_⟩
          refine ⟨_, rfl, rfl, ASGS_bind (ASGS_bind (ASGS_bind (ASGS_nil ?_)))⟩
          refine EXs_nil ?_
          have hc : b'.1 > alo ∧ b'.2.1 > blo ∧ cnd as bs fj true (b'.1 - 1) (b'.2.1 - 1) = true := ⟨c1, c2, by unfold cnd; rw [c3, c4]; rfl⟩
          refine ⟨(b'.1 - 1 - alo).toNat, by omega, rfl, fun y hy => ?_, (b'.1 - 1, b'.2.1 - 1, b'.2.2 + 1), ⟨by (first | assumption | (simp only [upd_get, String.reduceEq, if_true, if_false]; done) | (simp only [upd_get, String.reduceEq, if_true, if_false]; first | assumption | rfl)), by (first | assumption | (simp only [upd_get, String.reduceEq, if_true, if_false]; done) | (simp only [upd_get, String.reduceEq, if_true, if_false]; first | assumption | rfl)), by (first | assumption | (simp only [upd_get, String.reduceEq, if_true, if_false]; done) | (simp only [upd_get, String.reduceEq, if_true, if_false]; first | assumption | rfl))⟩, ?_, rfl, ?_⟩
          · have a1 : y ≠ "besti" := fun e => hy (by rw [e]; decide)
            have a2 : y ≠ "bestj" := fun e => hy (by rw [e]; decide)
            have a3 : y ≠ "bestsize" := fun e => hy (by rw [e]; decide)
            simp only [upd_get, a1, a2, a3, if_false]; exact x0 y hy
          · have := I'.k0
            exact ⟨by show alo ≤ b'.1 - 1; omega, by show blo ≤ b'.2.1 - 1; omega, by show 0 ≤ b'.2.2 + 1; omega, fun _ => by show b'.1 - 1 ≤ _; omega, fun _ => by show b'.2.1 - 1 ≤ _; omega⟩
          · rw [← x1]
            have e : (b'.1 - alo).toNat = (b'.1 - 1 - alo).toNat + 1 := by omega
            rw [e]
            conv => rhs; unfold down
            rw [if_pos hc]
    · rw [decide_eq_false c2, if_neg Bool.false_ne_true, if_neg Bool.false_ne_true]
      exact leave (fun h => c2 h.2.1)
  · rw [decide_eq_false c1, if_neg Bool.false_ne_true, if_neg Bool.false_ne_true]
    exact leave (fun h => c1 h.1)
theorem flm_w2 {L aA bA ib j : Addr} {as bs : List Int} {fj : Int → Bool} {nj : Nat} {alo ahi blo bhi : Int} {b : Best} (F : FL B hp L aA bA ib j as bs fj nj alo ahi blo bhi m) (hb : bestL m b) (I : InB as bs alo blo b) :
    EX (model PW w) A (fun _ _ => False) B (callEnv fdFlm L 196) (flmS 9) m hp fun fl m' hp' => fl = .next ∧ hp' = hp ∧ (∀ y, y ∉ wNames → m' (S y) = m (S y)) ∧ bestL m' (upAll (cnd as bs fj false) ahi bhi b) := by
  conv => arg 6; whnf
  refine EX_While (fun n m₂ hp₂ => hp₂ = hp ∧ (∀ y, y ∉ wNames → m₂ (S y) = m (S y)) ∧ ∃ b', bestL m₂ b' ∧ InB as bs alo blo b' ∧ n = (ahi - (b'.1 + b'.2.2)).toNat ∧ up (cnd as bs fj false) ahi bhi n b' = upAll (cnd as bs fj false) ahi bhi b) (ahi - (b.1 + b.2.2)).toNat ⟨rfl, fun _ _ => rfl, b, hb, I, rfl, rfl⟩ ?_
  rintro n m₂ hp₂ ⟨rfl, x0, b', ⟨b1, b2, b3⟩, I', rfl, x1⟩
  have F' := F.upd x0
  obtain ⟨h1, h2, h3, h4, h5, h6, h7, l1, l2, i1, i1L, i2, i2L, r1, r2, r3, r4, r5, r6⟩ := F'
  have leave : ¬ (b'.1 + b'.2.2 < ahi ∧ b'.2.1 + b'.2.2 < bhi ∧ cnd as bs fj false (b'.1 + b'.2.2) (b'.2.1 + b'.2.2) = true) → (AF.next = AF.next ∧ hp₂ = hp₂ ∧ (∀ y, y ∉ wNames → m₂ (S y) = m (S y)) ∧ bestL m₂ (upAll (cnd as bs fj false) ahi bhi b)) := fun hc => by
    refine ⟨rfl, rfl, x0, ?_⟩
    rw [← x1]
    cases hn : (ahi - (b'.1 + b'.2.2)).toNat with
    | zero => exact ⟨b1, b2, b3⟩
    | succ k => unfold up; rw [if_neg hc]; exact ⟨b1, b2, b3⟩
  refine TST_BoolOp ?_
  refine ALLT_And_cons ?_
  refine TST_Compare1 ?_
  refine EV_BinOp ?_
  refine EV_local (by (first | assumption | (simp only [upd_get, String.reduceEq, if_true, if_false]; done) | (simp only [upd_get, String.reduceEq, if_true, if_false]; first | assumption | rfl))) ?_
  refine EV_local (by (first | assumption | (simp only [upd_get, String.reduceEq, if_true, if_false]; done) | (simp only [upd_get, String.reduceEq, if_true, if_false]; first | assumption | rfl))) ?_
  refine OP_add ?_
  refine EV_local (by (first | assumption | (simp only [upd_get, String.reduceEq, if_true, if_false]; done) | (simp only [upd_get, String.reduceEq, if_true, if_false]; first | assumption | rfl))) ?_
  refine OP_lt ?_
  refine TRU_bool ?_
  by_cases c1 : b'.1 + b'.2.2 < ahi
  · rw [decide_eq_true c1, if_pos rfl]
    refine ALLT_And_cons ?_
    refine TST_Compare1 ?_
    refine EV_BinOp ?_
    refine EV_local (by (first | assumption | (simp only [upd_get, String.reduceEq, if_true, if_false]; done) | (simp only [upd_get, String.reduceEq, if_true, if_false]; first | assumption | rfl))) ?_
    refine EV_local (by (first | assumption | (simp only [upd_get, String.reduceEq, if_true, if_false]; done) | (simp only [upd_get, String.reduceEq, if_true, if_false]; first | assumption | rfl))) ?_
    refine OP_add ?_
    refine EV_local (by (first | assumption | (simp only [upd_get, String.reduceEq, if_true, if_false]; done) | (simp only [upd_get, String.reduceEq, if_true, if_false]; first | assumption | rfl))) ?_
    refine OP_lt ?_
    refine TRU_bool ?_
    by_cases c2 : b'.2.1 + b'.2.2 < bhi
    · rw [decide_eq_true c2, if_pos rfl]
      have ha := I'.a0
      have hb' := I'.b0
      have hk := I'.k0
      refine ALLT_And_cons (TST_Not (TST_value (EV_CallBnd (id := "set.__contains__") (EV_local h7 ⟨ib, j, rfl, i1L, ?_⟩))))
      refine EVS_cons ?_
      refine EV_Subscript ?_
      refine EV_local (by (first | assumption | (simp only [upd_get, String.reduceEq, if_true, if_false]; done) | (simp only [upd_get, String.reduceEq, if_true, if_false]; first | assumption | rfl))) ?_
      refine EV_BinOp ?_
      refine EV_local (by (first | assumption | (simp only [upd_get, String.reduceEq, if_true, if_false]; done) | (simp only [upd_get, String.reduceEq, if_true, if_false]; first | assumption | rfl))) ?_
      refine EV_local (by (first | assumption | (simp only [upd_get, String.reduceEq, if_true, if_false]; done) | (simp only [upd_get, String.reduceEq, if_true, if_false]; first | assumption | rfl))) ?_
      refine OP_add ?_
      refine SUB_list l2 (by omega) (by omega) (getD_some (by omega) (by omega)) ?_
      refine EVS_nil ?_
      refine ⟨i1, CL_bin i1 i1L i2 i2L ?_⟩
      refine TRU_bool ?_
      cases c3 : fj (bs.getD (b'.2.1 + b'.2.2).toNat 0) with
      | true =>
        rw [show (!true) = false from rfl, if_neg Bool.false_ne_true, if_neg Bool.false_ne_true]
        exact leave (fun h => by have := h.2.2; unfold cnd at this; rw [c3] at this; simp at this)
      | false =>
        rw [show (!false) = true from rfl, if_pos rfl]
        refine ALLT_And_cons ?_
        refine TST_Compare1 ?_
        refine EV_Subscript ?_
        refine EV_local (by (first | assumption | (simp only [upd_get, String.reduceEq, if_true, if_false]; done) | (simp only [upd_get, String.reduceEq, if_true, if_false]; first | assumption | rfl))) ?_
        refine EV_BinOp ?_
        refine EV_local (by (first | assumption | (simp only [upd_get, String.reduceEq, if_true, if_false]; done) | (simp only [upd_get, String.reduceEq, if_true, if_false]; first | assumption | rfl))) ?_
        refine EV_local (by (first | assumption | (simp only [upd_get, String.reduceEq, if_true, if_false]; done) | (simp only [upd_get, String.reduceEq, if_true, if_false]; first | assumption | rfl))) ?_
        refine OP_add ?_
        refine SUB_list l1 (by omega) (by omega) (getD_some (by omega) (by omega)) ?_
        refine EV_Subscript ?_
        refine EV_local (by (first | assumption | (simp only [upd_get, String.reduceEq, if_true, if_false]; done) | (simp only [upd_get, String.reduceEq, if_true, if_false]; first | assumption | rfl))) ?_
        refine EV_BinOp ?_
        refine EV_local (by (first | assumption | (simp only [upd_get, String.reduceEq, if_true, if_false]; done) | (simp only [upd_get, String.reduceEq, if_true, if_false]; first | assumption | rfl))) ?_
        refine EV_local (by (first | assumption | (simp only [upd_get, String.reduceEq, if_true, if_false]; done) | (simp only [upd_get, String.reduceEq, if_true, if_false]; first | assumption | rfl))) ?_
        refine OP_add ?_
        refine SUB_list l2 (by omega) (by omega) (getD_some (by omega) (by omega)) ?_
        refine OP_eq ?_
        refine TRU_bool ?_
        cases c4 : (as.getD (b'.1 + b'.2.2).toNat 0 == bs.getD (b'.2.1 + b'.2.2).toNat 0) with
        | false =>
          rw [if_neg Bool.false_ne_true, if_neg Bool.false_ne_true]
          exact leave (fun h => by have := h.2.2; unfold cnd at this; rw [c4] at this; simp at this)
        | true =>
          rw [if_pos rfl]
          refine ALLT_And_nil ?_
          rw [if_pos rfl]
          refine EXs_cons ?_
          refine EX_AugAssign (by (first | assumption | (simp only [upd_get, String.reduceEq, if_true, if_false]; done) | (simp only [upd_get, String.reduceEq, if_true, if_false]; first | assumption | rfl))) ?_
          refine EV_int ?_
          refine OP_iadd ?_
          refine EXs_nil ?_
          have hc : b'.1 + b'.2.2 < ahi ∧ b'.2.1 + b'.2.2 < bhi ∧ cnd as bs fj false (b'.1 + b'.2.2) (b'.2.1 + b'.2.2) = true := ⟨c1, c2, by unfold cnd; rw [c3, c4]; rfl⟩
          refine ⟨(ahi - (b'.1 + (b'.2.2 + 1))).toNat, by omega, rfl, fun y hy => ?_, (b'.1, b'.2.1, b'.2.2 + 1), ⟨by (first | assumption | (simp only [upd_get, String.reduceEq, if_true, if_false]; done) | (simp only [upd_get, String.reduceEq, if_true, if_false]; first | assumption | rfl)), by (first | assumption | (simp only [upd_get, String.reduceEq, if_true, if_false]; done) | (simp only [upd_get, String.reduceEq, if_true, if_false]; first | assumption | rfl)), by (first | assumption | (simp only [upd_get, String.reduceEq, if_true, if_false]; done) | (simp only [upd_get, String.reduceEq, if_true, if_false]; first | assumption | rfl))⟩, ?_, rfl, ?_⟩
          · have a3 : y ≠ "bestsize" := fun e => hy (by rw [e]; decide)
            simp only [upd_get, a3, if_false]; exact x0 y hy
          · exact ⟨I'.a0, I'.b0, by show 0 ≤ b'.2.2 + 1; omega, I'.a1, I'.b1⟩
          · rw [← x1]
            have e : (ahi - (b'.1 + b'.2.2)).toNat = (ahi - (b'.1 + (b'.2.2 + 1))).toNat + 1 := by omega
            rw [e]
            conv => rhs; unfold up
            rw [if_pos hc]
    · rw [decide_eq_false c2, if_neg Bool.false_ne_true, if_neg Bool.false_ne_true]
      exact leave (fun h => c2 h.2.1)
  · rw [decide_eq_false c1, if_neg Bool.false_ne_true, if_neg Bool.false_ne_true]
    exact leave (fun h => c1 h.1)
theorem flm_w4 {L aA bA ib j : Addr} {as bs : List Int} {fj : Int → Bool} {nj : Nat} {alo ahi blo bhi : Int} {b : Best} (F : FL B hp L aA bA ib j as bs fj nj alo ahi blo bhi m) (hb : bestL m b) (I : InB as bs alo blo b) :
    EX (model PW w) A (fun _ _ => False) B (callEnv fdFlm L 196) (flmS 11) m hp fun fl m' hp' => fl = .next ∧ hp' = hp ∧ (∀ y, y ∉ wNames → m' (S y) = m (S y)) ∧ bestL m' (upAll (cnd as bs fj true) ahi bhi b) := by
  conv => arg 6; whnf
  refine EX_While (fun n m₂ hp₂ => hp₂ = hp ∧ (∀ y, y ∉ wNames → m₂ (S y) = m (S y)) ∧ ∃ b', bestL m₂ b' ∧ InB as bs alo blo b' ∧ n = (ahi - (b'.1 + b'.2.2)).toNat ∧ up (cnd as bs fj true) ahi bhi n b' = upAll (cnd as bs fj true) ahi bhi b) (ahi - (b.1 + b.2.2)).toNat ⟨rfl, fun _ _ => rfl, b, hb, I, rfl, rfl⟩ ?_
  rintro n m₂ hp₂ ⟨rfl, x0, b', ⟨b1, b2, b3⟩, I', rfl, x1⟩
  have F' := F.upd x0
  obtain ⟨h1, h2, h3, h4, h5, h6, h7, l1, l2, i1, i1L, i2, i2L, r1, r2, r3, r4, r5, r6⟩ := F'
  have leave : ¬ (b'.1 + b'.2.2 < ahi ∧ b'.2.1 + b'.2.2 < bhi ∧ cnd as bs fj true (b'.1 + b'.2.2) (b'.2.1 + b'.2.2) = true) → (AF.next = AF.next ∧ hp₂ = hp₂ ∧ (∀ y, y ∉ wNames → m₂ (S y) = m (S y)) ∧ bestL m₂ (upAll (cnd as bs fj true) ahi bhi b)) := fun hc => by
    refine ⟨rfl, rfl, x0, ?_⟩
    rw [← x1]
    cases hn : (ahi - (b'.1 + b'.2.2)).toNat with
    | zero => exact ⟨b1, b2, b3⟩
    | succ k => unfold up; rw [if_neg hc]; exact ⟨b1, b2, b3⟩
  refine TST_BoolOp ?_
  refine ALLT_And_cons ?_
  refine TST_Compare1 ?_
  refine EV_BinOp ?_
  refine EV_local (by (first | assumption | (simp only [upd_get, String.reduceEq, if_true, if_false]; done) | (simp only [upd_get, String.reduceEq, if_true, if_false]; first | assumption | rfl))) ?_
  refine EV_local (by (first | assumption | (simp only [upd_get, String.reduceEq, if_true, if_false]; done) | (simp only [upd_get, String.reduceEq, if_true, if_false]; first | assumption | rfl))) ?_
  refine OP_add ?_
  refine EV_local (by (first | assumption | (simp only [upd_get, String.reduceEq, if_true, if_false]; done) | (simp only [upd_get, String.reduceEq, if_true, if_false]; first | assumption | rfl))) ?_
  refine OP_lt ?_
  refine TRU_bool ?_
  by_cases c1 : b'.1 + b'.2.2 < ahi
  · rw [decide_eq_true c1, if_pos rfl]
    refine ALLT_And_cons ?_
    refine TST_Compare1 ?_
    refine EV_BinOp ?_
    refine EV_local (by (first | assumption | (simp only [upd_get, String.reduceEq, if_true, if_false]; done) | (simp only [upd_get, String.reduceEq, if_true, if_false]; first | assumption | rfl))) ?_
    refine EV_local (by (first | assumption | (simp only [upd_get, String.reduceEq, if_true, if_false]; done) | (simp only [upd_get, String.reduceEq, if_true, if_false]; first | assumption | rfl))) ?_
    refine OP_add ?_
    refine EV_local (by (first | assumption | (simp only [upd_get, String.reduceEq, if_true, if_false]; done) | (simp only [upd_get, String.reduceEq, if_true, if_false]; first | assumption | rfl))) ?_
    refine OP_lt ?_
    refine TRU_bool ?_
    by_cases c2 : b'.2.1 + b'.2.2 < bhi
    · rw [decide_eq_true c2, if_pos rfl]
      have ha := I'.a0
      have hb' := I'.b0
      have hk := I'.k0
      refine ALLT_And_cons (TST_value (EV_CallBnd (id := "set.__contains__") (EV_local h7 ⟨ib, j, rfl, i1L, ?_⟩)))
      refine EVS_cons ?_
      refine EV_Subscript ?_
      refine EV_local (by (first | assumption | (simp only [upd_get, String.reduceEq, if_true, if_false]; done) | (simp only [upd_get, String.reduceEq, if_true, if_false]; first | assumption | rfl))) ?_
      refine EV_BinOp ?_
      refine EV_local (by (first | assumption | (simp only [upd_get, String.reduceEq, if_true, if_false]; done) | (simp only [upd_get, String.reduceEq, if_true, if_false]; first | assumption | rfl))) ?_
      refine EV_local (by (first | assumption | (simp only [upd_get, String.reduceEq, if_true, if_false]; done) | (simp only [upd_get, String.reduceEq, if_true, if_false]; first | assumption | rfl))) ?_
      refine OP_add ?_
      refine SUB_list l2 (by omega) (by omega) (getD_some (by omega) (by omega)) ?_
      refine EVS_nil ?_
      refine ⟨i1, CL_bin i1 i1L i2 i2L ?_⟩
      refine TRU_bool ?_
      cases c3 : fj (bs.getD (b'.2.1 + b'.2.2).toNat 0) with
      | false =>
        rw [if_neg Bool.false_ne_true, if_neg Bool.false_ne_true]
        exact leave (fun h => by have := h.2.2; unfold cnd at this; rw [c3] at this; simp at this)
      | true =>
        rw [if_pos rfl]
        refine ALLT_And_cons ?_
        refine TST_Compare1 ?_
        refine EV_Subscript ?_
        refine EV_local (by (first | assumption | (simp only [upd_get, String.reduceEq, if_true, if_false]; done) | (simp only [upd_get, String.reduceEq, if_true, if_false]; first | assumption | rfl))) ?_
        refine EV_BinOp ?_
        refine EV_local (by (first | assumption | (simp only [upd_get, String.reduceEq, if_true, if_false]; done) | (simp only [upd_get, String.reduceEq, if_true, if_false]; first | assumption | rfl))) ?_
        refine EV_local (by (first | assumption | (simp only [upd_get, String.reduceEq, if_true, if_false]; done) | (simp only [upd_get, String.reduceEq, if_true, if_false]; first | assumption | rfl))) ?_
        refine OP_add ?_
        refine SUB_list l1 (by omega) (by omega) (getD_some (by omega) (by omega)) ?_
        refine EV_Subscript ?_
        refine EV_local (by (first | assumption | (simp only [upd_get, String.reduceEq, if_true, if_false]; done) | (simp only [upd_get, String.reduceEq, if_true, if_false]; first | assumption | rfl))) ?_
        refine EV_BinOp ?_
        refine EV_local (by (first | assumption | (simp only [upd_get, String.reduceEq, if_true, if_false]; done) | (simp only [upd_get, String.reduceEq, if_true, if_false]; first | assumption | rfl))) ?_
        refine EV_local (by (first | assumption | (simp only [upd_get, String.reduceEq, if_true, if_false]; done) | (simp only [upd_get, String.reduceEq, if_true, if_false]; first | assumption | rfl))) ?_
        refine OP_add ?_
        refine SUB_list l2 (by omega) (by omega) (getD_some (by omega) (by omega)) ?_
        refine OP_eq ?_
        refine TRU_bool ?_
        cases c4 : (as.getD (b'.1 + b'.2.2).toNat 0 == bs.getD (b'.2.1 + b'.2.2).toNat 0) with
        | false =>
          rw [if_neg Bool.false_ne_true, if_neg Bool.false_ne_true]
          exact leave (fun h => by have := h.2.2; unfold cnd at this; rw [c4] at this; simp at this)
        | true =>
          rw [if_pos rfl]
          refine ALLT_And_nil ?_
          rw [if_pos rfl]
          refine EXs_cons ?_
          refine EX_Assign ?_
          refine EV_BinOp ?_
          refine EV_local (by (first | assumption | (simp only [upd_get, String.reduceEq, if_true, if_false]; done) | (simp only [upd_get, String.reduceEq, if_true, if_false]; first | assumption | rfl))) ?_
          refine EV_int ?_
          refine OP_add ?_
          refine EXs_nil ?_
          have hc : b'.1 + b'.2.2 < ahi ∧ b'.2.1 + b'.2.2 < bhi ∧ cnd as bs fj true (b'.1 + b'.2.2) (b'.2.1 + b'.2.2) = true := ⟨c1, c2, by unfold cnd; rw [c3, c4]; rfl⟩
          refine ⟨(ahi - (b'.1 + (b'.2.2 + 1))).toNat, by omega, rfl, fun y hy => ?_, (b'.1, b'.2.1, b'.2.2 + 1), ⟨by (first | assumption | (simp only [upd_get, String.reduceEq, if_true, if_false]; done) | (simp only [upd_get, String.reduceEq, if_true, if_false]; first | assumption | rfl)), by (first | assumption | (simp only [upd_get, String.reduceEq, if_true, if_false]; done) | (simp only [upd_get, String.reduceEq, if_true, if_false]; first | assumption | rfl)), by (first | assumption | (simp only [upd_get, String.reduceEq, if_true, if_false]; done) | (simp only [upd_get, String.reduceEq, if_true, if_false]; first | assumption | rfl))⟩, ?_, rfl, ?_⟩
          · have a3 : y ≠ "bestsize" := fun e => hy (by rw [e]; decide)
            simp only [upd_get, a3, if_false]; exact x0 y hy
          · exact ⟨I'.a0, I'.b0, by show 0 ≤ b'.2.2 + 1; omega, I'.a1, I'.b1⟩
          · rw [← x1]
            have e : (ahi - (b'.1 + b'.2.2)).toNat = (ahi - (b'.1 + (b'.2.2 + 1))).toNat + 1 := by omega
            rw [e]
            conv => rhs; unfold up
            rw [if_pos hc]
    · rw [decide_eq_false c2, if_neg Bool.false_ne_true, if_neg Bool.false_ne_true]
      exact leave (fun h => c2 h.2.1)
  · rw [decide_eq_false c1, if_neg Bool.false_ne_true, if_neg Bool.false_ne_true]
    exact leave (fun h => c1 h.1)
end
end Mine

set_option maxRecDepth 100000
namespace Mine
def MJ (as : List Int) (J : Int → List Nat) (p q : Int) : Prop := ∃ j ∈ J (as.getD p.toNat 0), (j : Int) = q
open Classical in
noncomputable def LL (M : Int → Int → Prop) (alo blo bhi : Int) : Nat → Int → Int
  | 0, _ => 0
  | n + 1, j => if blo ≤ j ∧ j < bhi ∧ M (alo + n) j then LL M alo blo bhi n (j - 1) + 1 else 0
theorem LL_nonneg {M : Int → Int → Prop} {alo blo bhi : Int} : ∀ (n : Nat) (j : Int), 0 ≤ LL M alo blo bhi n j
  | 0, j => by simp [LL]
  | n + 1, j => by
    have := LL_nonneg (M := M) (alo := alo) (blo := blo) (bhi := bhi) n (j - 1)
    unfold LL; split <;> omega
theorem LL_le {M : Int → Int → Prop} {alo blo bhi : Int} : ∀ (n : Nat) (j : Int), LL M alo blo bhi n j ≤ n
  | 0, j => by simp [LL]
  | n + 1, j => by
    have := LL_le (M := M) (alo := alo) (blo := blo) (bhi := bhi) n (j - 1)
    unfold LL; split <;> omega
theorem LL_in {M : Int → Int → Prop} {alo blo bhi : Int} : ∀ (n : Nat) (j t : Int), 0 ≤ t → t < LL M alo blo bhi n j → M (alo + n - 1 - t) (j - t) ∧ blo ≤ j - t ∧ j < bhi
  | 0, j, t, h0, h1 => by simp [LL] at h1; omega
  | n + 1, j, t, h0, h1 => by
    unfold LL at h1
    split at h1
    · rename_i hc
      by_cases ht : t = 0
      · subst ht
        refine ⟨?_, by omega, hc.2.1⟩
        have e1 : alo + ((n + 1 : Nat) : Int) - 1 - 0 = alo + n := by omega
        have e2 : j - 0 = j := by omega
        rw [e1, e2]; exact hc.2.2
      · have := LL_in (M := M) (alo := alo) (blo := blo) (bhi := bhi) n (j - 1) (t - 1) (by omega) (by omega)
        have e1 : alo + ((n + 1 : Nat) : Int) - 1 - t = alo + n - 1 - (t - 1) := by omega
        have e2 : j - t = j - 1 - (t - 1) := by omega
        rw [e1, e2]; exact ⟨this.1, by omega, hc.2.1⟩
    · omega
theorem LL_ge {M : Int → Int → Prop} {alo blo bhi : Int} : ∀ (n : Nat) (j k : Int), k ≤ n → blo ≤ j - k + 1 → j < bhi → (∀ t, 0 ≤ t → t < k → M (alo + n - 1 - t) (j - t)) → k ≤ LL M alo blo bhi n j
  | 0, j, k, h1, _, _, _ => by simp [LL]; omega
  | n + 1, j, k, h1, h2, h3, h => by
    by_cases hk : k ≤ 0
    · exact Int.le_trans hk (LL_nonneg _ _)
    · have h0 := h 0 (by omega) (by omega)
      have e1 : alo + ((n + 1 : Nat) : Int) - 1 - 0 = alo + n := by omega
      have e2 : j - 0 = j := by omega
      rw [e1, e2] at h0
      have := LL_ge (M := M) (alo := alo) (blo := blo) (bhi := bhi) n (j - 1) (k - 1) (by omega) (by omega) (by omega) fun t ht0 ht1 => by
        have := h (t + 1) (by omega) (by omega)
        have e1 : alo + ((n + 1 : Nat) : Int) - 1 - (t + 1) = alo + n - 1 - t := by omega
        have e2 : j - (t + 1) = j - 1 - t := by omega
        rw [e1, e2] at this; exact this
      unfold LL
      rw [if_pos ⟨by omega, h3, h0⟩]
      omega
theorem inner_eq {i blo bhi : Int} {f : Int → Int} : ∀ {js : List Nat} {st : FSt}, js.Pairwise (· < ·) → inner i blo bhi f js st = (js.filter fun (j : Nat) => decide (blo ≤ (j : Int)) && decide ((j : Int) < bhi)).foldl (fun st (j : Nat) => innS i f st (j : Int)) st
  | [], st, _ => rfl
  | j :: js, st, hp => by
    rw [List.pairwise_cons] at hp
    unfold inner
    by_cases h1 : (j : Int) < blo
    · rw [if_pos h1, inner_eq hp.2, List.filter_cons_of_neg (by simp; omega)]
    · rw [if_neg h1]
      by_cases h2 : (j : Int) ≥ bhi
      · rw [if_pos h2, List.filter_cons_of_neg (by simp; omega)]
        have : js.filter (fun (j : Nat) => decide (blo ≤ (j : Int)) && decide ((j : Int) < bhi)) = [] := by
          rw [List.filter_eq_nil_iff]
          intro a ha
          have := hp.1 a ha
          simp; omega
        rw [this]; rfl
      · rw [if_neg h2, inner_eq hp.2, List.filter_cons_of_pos (by simp; omega), List.foldl_cons]
def BInv (alo blo : Int) (D : Int → Int → Prop) (V : Int → Int → Int) (b : Best) : Prop :=
  (b = (alo, blo, 0) ∧ ∀ r j, ¬ D r j) ∨
  (0 < b.2.2 ∧ D (b.1 + b.2.2 - 1) (b.2.1 + b.2.2 - 1) ∧ V (b.1 + b.2.2 - 1) (b.2.1 + b.2.2 - 1) = b.2.2 ∧ ∀ r j, D r j → V r j ≤ b.2.2 ∧ (V r j = b.2.2 → b.1 + b.2.2 - 1 < r ∨ (b.1 + b.2.2 - 1 = r ∧ b.2.1 + b.2.2 - 1 ≤ j)))
theorem BInv.congr {alo blo : Int} {D D' : Int → Int → Prop} {V : Int → Int → Int} {b : Best} (h : BInv alo blo D V b) (e : ∀ r j, D' r j ↔ D r j) : BInv alo blo D' V b := by
  have : D' = D := by funext r j; exact propext (e r j)
  rw [this]; exact h
theorem fold_inv {alo blo r0 : Int} {f : Int → Int} {V : Int → Int → Int} : ∀ {js : List Nat} {D : Int → Int → Prop} {g : Int → Int} {b : Best}, js.Pairwise (· < ·) → (∀ j ∈ js, V r0 (j : Int) = f ((j : Int) - 1) + 1) → (∀ x, 0 ≤ f x) → (∀ r j, D r j → r < r0 ∨ (r = r0 ∧ ∀ j' ∈ js, j < (j' : Int))) → BInv alo blo D V b →
    BInv alo blo (fun r j => D r j ∨ (r = r0 ∧ ∃ j' ∈ js, (j' : Int) = j)) V (js.foldl (fun st (j : Nat) => innS r0 f st (j : Int)) (g, b)).2 ∧
    ∀ x, (js.foldl (fun st (j : Nat) => innS r0 f st (j : Int)) (g, b)).1 x = if ∃ j' ∈ js, ((j' : Nat) : Int) = x then f (x - 1) + 1 else g x
  | [], D, g, b, _, _, _, _, h => ⟨h.congr fun r j => by simp, fun x => by simp⟩
  | j :: js, D, g, b, hp, hV, hf, hD, h => by
    rw [List.pairwise_cons] at hp
    rw [List.foldl_cons]
    have hv := hV j (.head _)
    have hf0 := hf ((j : Int) - 1)
    have h' : BInv alo blo (fun r j' => D r j' ∨ (r = r0 ∧ j' = (j : Int))) V (innS r0 f (g, b) (j : Int)).2 := by
      unfold innS
      dsimp only
      rcases h with ⟨rfl, hno⟩ | ⟨h0, h1, h2, h3⟩
      · rw [if_pos (by show f ((j : Int) - 1) + 1 > 0; omega)]
        refine .inr ⟨by show 0 < f ((j : Int) - 1) + 1; omega, ?_, ?_, ?_⟩
        · right; exact ⟨by show r0 - (f ((j : Int) - 1) + 1) + 1 + (f ((j : Int) - 1) + 1) - 1 = r0; omega, by show (j : Int) - (f ((j : Int) - 1) + 1) + 1 + (f ((j : Int) - 1) + 1) - 1 = j; omega⟩
        · show V (r0 - (f ((j : Int) - 1) + 1) + 1 + (f ((j : Int) - 1) + 1) - 1) ((j : Int) - (f ((j : Int) - 1) + 1) + 1 + (f ((j : Int) - 1) + 1) - 1) = f ((j : Int) - 1) + 1
          have e1 : r0 - (f ((j : Int) - 1) + 1) + 1 + (f ((j : Int) - 1) + 1) - 1 = r0 := by omega
          have e2 : (j : Int) - (f ((j : Int) - 1) + 1) + 1 + (f ((j : Int) - 1) + 1) - 1 = j := by omega
          rw [e1, e2]; exact hv
        · rintro r j' (hd | ⟨rfl, rfl⟩)
          · exact absurd hd (hno r j')
          · exact ⟨by rw [hv]; exact Int.le_refl _, fun _ => .inr ⟨by show r - (f ((j : Int) - 1) + 1) + 1 + (f ((j : Int) - 1) + 1) - 1 = r; omega, by show (j : Int) - (f ((j : Int) - 1) + 1) + 1 + (f ((j : Int) - 1) + 1) - 1 ≤ j; omega⟩⟩
      · by_cases hgt : f ((j : Int) - 1) + 1 > b.2.2
        · rw [if_pos hgt]
          refine .inr ⟨by show 0 < f ((j : Int) - 1) + 1; omega, ?_, ?_, ?_⟩
          · right; exact ⟨by show r0 - (f ((j : Int) - 1) + 1) + 1 + (f ((j : Int) - 1) + 1) - 1 = r0; omega, by show (j : Int) - (f ((j : Int) - 1) + 1) + 1 + (f ((j : Int) - 1) + 1) - 1 = j; omega⟩
          · show V (r0 - (f ((j : Int) - 1) + 1) + 1 + (f ((j : Int) - 1) + 1) - 1) ((j : Int) - (f ((j : Int) - 1) + 1) + 1 + (f ((j : Int) - 1) + 1) - 1) = f ((j : Int) - 1) + 1
            have e1 : r0 - (f ((j : Int) - 1) + 1) + 1 + (f ((j : Int) - 1) + 1) - 1 = r0 := by omega
            have e2 : (j : Int) - (f ((j : Int) - 1) + 1) + 1 + (f ((j : Int) - 1) + 1) - 1 = j := by omega
            rw [e1, e2]; exact hv
          · rintro r j' (hd | ⟨rfl, rfl⟩)
            · have := (h3 r j' hd).1
              refine ⟨by show V r j' ≤ f ((j : Int) - 1) + 1; omega, fun e => ?_⟩
              have e' : V r j' = f ((j : Int) - 1) + 1 := e
              omega
            · exact ⟨by rw [hv]; exact Int.le_refl _, fun _ => .inr ⟨by show r - (f ((j : Int) - 1) + 1) + 1 + (f ((j : Int) - 1) + 1) - 1 = r; omega, by show (j : Int) - (f ((j : Int) - 1) + 1) + 1 + (f ((j : Int) - 1) + 1) - 1 ≤ j; omega⟩⟩
        · rw [if_neg hgt]
          refine .inr ⟨h0, .inl h1, h2, ?_⟩
          rintro r j' (hd | ⟨rfl, rfl⟩)
          · exact h3 r j' hd
          · refine ⟨by omega, fun _ => ?_⟩
            rcases hD _ _ h1 with hlt | ⟨he, hlt⟩
            · exact .inl hlt
            · exact .inr ⟨he, Int.le_of_lt (hlt j (.head _))⟩
    have ih := fold_inv (alo := alo) (blo := blo) (r0 := r0) (f := f) (V := V) (js := js) (D := fun r j' => D r j' ∨ (r = r0 ∧ j' = (j : Int))) (g := (innS r0 f (g, b) (j : Int)).1) (b := (innS r0 f (g, b) (j : Int)).2) hp.2 (fun j' hj' => hV j' (.tail _ hj')) hf ?_ h'
    · refine ⟨ih.1.congr fun r j' => ?_, fun x => ?_⟩
      · simp only [List.mem_cons, exists_eq_or_imp]
        constructor
        · rintro (a | ⟨a, b | b⟩)
          · exact .inl (.inl a)
          · exact .inl (.inr ⟨a, b.symm⟩)
          · exact .inr ⟨a, b⟩
        · rintro ((a | ⟨a, b⟩) | ⟨a, b⟩)
          · exact .inl a
          · exact .inr ⟨a, .inl b.symm⟩
          · exact .inr ⟨a, .inr b⟩
      · rw [ih.2 x]
        by_cases hx : ∃ j' ∈ js, ((j' : Nat) : Int) = x
        · rw [if_pos hx, if_pos]
          obtain ⟨j', a, b⟩ := hx; exact ⟨j', .tail _ a, b⟩
        · rw [if_neg hx]
          show (if x = (j : Int) then f ((j : Int) - 1) + 1 else g x) = _
          by_cases hxj : x = (j : Int)
          · rw [if_pos hxj, if_pos ⟨j, .head _, hxj.symm⟩, hxj]
          · rw [if_neg hxj, if_neg]
            rintro ⟨j', a, b⟩
            rcases List.mem_cons.mp a with rfl | a
            · exact hxj b.symm
            · exact hx ⟨j', a, b⟩
    · rintro r j' (hd | ⟨rfl, rfl⟩)
      · rcases hD r j' hd with hlt | ⟨he, hlt⟩
        · exact .inl hlt
        · exact .inr ⟨he, fun j'' hj'' => hlt j'' (.tail _ hj'')⟩
      · exact .inr ⟨rfl, fun j'' hj'' => by have := hp.1 j'' hj''; omega⟩
theorem outS_inv {as : List Int} {J : Int → List Nat} {alo blo bhi : Int} (hJ : ∀ x, (J x).Pairwise (· < ·)) : ∀ n : Nat, (∀ x, (outS as J alo blo bhi n).1 x = LL (MJ as J) alo blo bhi n x) ∧
    BInv alo blo (fun r j => alo ≤ r ∧ r < alo + n ∧ blo ≤ j ∧ j < bhi ∧ MJ as J r j) (fun r j => LL (MJ as J) alo blo bhi (r - alo + 1).toNat j) (outS as J alo blo bhi n).2
  | 0 => ⟨fun x => rfl, .inl ⟨rfl, fun r j h => by have := h.1; have := h.2.1; omega⟩⟩
  | n + 1 => by
    have ih := outS_inv (as := as) (alo := alo) (blo := blo) (bhi := bhi) hJ n
    unfold outS
    rw [inner_eq (hJ _)]
    have mem : ∀ x : Int, (∃ j' ∈ (J (as.getD (alo + n).toNat 0)).filter (fun (j : Nat) => decide (blo ≤ (j : Int)) && decide ((j : Int) < bhi)), ((j' : Nat) : Int) = x) ↔ (blo ≤ x ∧ x < bhi ∧ MJ as J (alo + n) x) := fun x => by
      constructor
      · rintro ⟨j', hm, rfl⟩
        rw [List.mem_filter, Bool.and_eq_true, decide_eq_true_iff, decide_eq_true_iff] at hm
        exact ⟨hm.2.1, hm.2.2, j', hm.1, rfl⟩
      · rintro ⟨h1, h2, j', hm, rfl⟩
        refine ⟨j', ?_, rfl⟩
        rw [List.mem_filter, Bool.and_eq_true, decide_eq_true_iff, decide_eq_true_iff]
        exact ⟨hm, h1, h2⟩
    have hn : (alo + (n : Int) - alo + 1).toNat = n + 1 := by omega
    have F := fold_inv (alo := alo) (blo := blo) (r0 := alo + n) (f := (outS as J alo blo bhi n).1) (V := fun r j => LL (MJ as J) alo blo bhi (r - alo + 1).toNat j) (js := (J (as.getD (alo + n).toNat 0)).filter (fun (j : Nat) => decide (blo ≤ (j : Int)) && decide ((j : Int) < bhi)))
      (D := fun r j => alo ≤ r ∧ r < alo + n ∧ blo ≤ j ∧ j < bhi ∧ MJ as J r j) (g := fun _ => 0) (b := (outS as J alo blo bhi n).2) ((hJ _).filter _) (fun j hj => ?_) (fun x => by rw [ih.1]; exact LL_nonneg _ _) (fun r j h => .inl h.2.1) ih.2
    · refine ⟨fun x => ?_, F.1.congr fun r j => ?_⟩
      · rw [F.2 x, LL]
        by_cases hx : blo ≤ x ∧ x < bhi ∧ MJ as J (alo + n) x
        · rw [if_pos ((mem x).mpr hx), if_pos hx, ih.1]
        · rw [if_neg (fun h => hx ((mem x).mp h)), if_neg hx]
      · rw [mem j]
        constructor
        · rintro ⟨h1, h2, h3, h4, h5⟩
          by_cases hr : r < alo + n
          · exact .inl ⟨h1, hr, h3, h4, h5⟩
          · have : r = alo + n := by omega
            subst this
            exact .inr ⟨rfl, h3, h4, h5⟩
        · rintro (⟨h1, h2, h3, h4, h5⟩ | ⟨rfl, h3, h4, h5⟩)
          · exact ⟨h1, by omega, h3, h4, h5⟩
          · exact ⟨by omega, by omega, h3, h4, h5⟩
    · rw [hn, LL, if_pos ((mem _).mp ⟨j, hj, rfl⟩), ih.1]
structure Common (M : Int → Int → Prop) (alo ahi blo bhi i j k : Int) : Prop where
  a0 : alo ≤ i
  a1 : i + k ≤ ahi
  b0 : blo ≤ j
  b1 : j + k ≤ bhi
  k0 : 0 ≤ k
  eq : ∀ t, 0 ≤ t → t < k → M (i + t) (j + t)
structure Longest (M : Int → Int → Prop) (alo ahi blo bhi : Int) (b : Best) : Prop where
  k0 : 0 ≤ b.2.2
  zero : b.2.2 = 0 → b = (alo, blo, 0)
  com : 0 < b.2.2 → Common M alo ahi blo bhi b.1 b.2.1 b.2.2
  max : ∀ i j k, Common M alo ahi blo bhi i j k → k ≤ b.2.2 ∧ (k = b.2.2 → 0 < k → b.1 < i ∨ (b.1 = i ∧ b.2.1 ≤ j))
theorem outS_longest {as : List Int} {J : Int → List Nat} {alo ahi blo bhi : Int} (hJ : ∀ x, (J x).Pairwise (· < ·)) : Longest (MJ as J) alo ahi blo bhi (outS as J alo blo bhi (ahi - alo).toNat).2 := by
  have I := (outS_inv (as := as) (alo := alo) (blo := blo) (bhi := bhi) hJ (ahi - alo).toNat).2
  generalize (outS as J alo blo bhi (ahi - alo).toNat).2 = b at I
  have last : ∀ i j k, Common (MJ as J) alo ahi blo bhi i j k → 0 < k → (alo ≤ i + k - 1 ∧ i + k - 1 < alo + ((ahi - alo).toNat : Nat) ∧ blo ≤ j + k - 1 ∧ j + k - 1 < bhi ∧ MJ as J (i + k - 1) (j + k - 1)) ∧ k ≤ LL (MJ as J) alo blo bhi (i + k - 1 - alo + 1).toNat (j + k - 1) := fun i j k c hk => by
    have := c.a0; have := c.a1; have := c.b0; have := c.b1
    have e := c.eq (k - 1) (by omega) (by omega)
    have e1 : i + (k - 1) = i + k - 1 := by omega
    have e2 : j + (k - 1) = j + k - 1 := by omega
    rw [e1, e2] at e
    refine ⟨⟨by omega, by omega, by omega, by omega, e⟩, LL_ge _ _ _ (by omega) (by omega) (by omega) fun t h0 h1 => ?_⟩
    have := c.eq (k - 1 - t) (by omega) (by omega)
    have e3 : alo + (((i + k - 1 - alo + 1).toNat : Nat) : Int) - 1 - t = i + (k - 1 - t) := by omega
    have e4 : j + k - 1 - t = j + (k - 1 - t) := by omega
    rw [e3, e4]; exact this
  rcases I with ⟨rfl, hno⟩ | ⟨h0, h1, h2, h3⟩
  · refine ⟨Int.le_refl _, fun _ => rfl, fun h => absurd h (Int.lt_irrefl _), fun i j k c => ?_⟩
    by_cases hk : 0 < k
    · exact absurd (last i j k c hk).1 (hno _ _)
    · exact ⟨by show k ≤ 0; omega, fun _ h => absurd h hk⟩
  · refine ⟨by omega, fun e => by omega, fun _ => ?_, fun i j k c => ?_⟩
    · have hle := LL_le (M := MJ as J) (alo := alo) (blo := blo) (bhi := bhi) (b.1 + b.2.2 - 1 - alo + 1).toNat (b.2.1 + b.2.2 - 1)
      have hin := fun t a c => LL_in (M := MJ as J) (alo := alo) (blo := blo) (bhi := bhi) (b.1 + b.2.2 - 1 - alo + 1).toNat (b.2.1 + b.2.2 - 1) t a c
      dsimp only at h2
      rw [h2] at hle
      simp only [h2] at hin
      obtain ⟨g1, g2, g3, g4, g5⟩ := h1
      have hb := (hin (b.2.2 - 1) (by omega) (by omega)).2.1
      refine ⟨by omega, by omega, by omega, by omega, by omega, fun t ht0 ht1 => ?_⟩
      have := (hin (b.2.2 - 1 - t) (by omega) (by omega)).1
      have e3 : alo + (((b.1 + b.2.2 - 1 - alo + 1).toNat : Nat) : Int) - 1 - (b.2.2 - 1 - t) = b.1 + t := by omega
      have e4 : b.2.1 + b.2.2 - 1 - (b.2.2 - 1 - t) = b.2.1 + t := by omega
      rw [e3, e4] at this; exact this
    · by_cases hk : 0 < k
      · obtain ⟨l1, l2⟩ := last i j k c hk
        have l3 := h3 _ _ l1
        dsimp only at l3
        refine ⟨Int.le_trans l2 l3.1, fun e _ => ?_⟩
        have l4 : LL (MJ as J) alo blo bhi (i + k - 1 - alo + 1).toNat (j + k - 1) = b.2.2 := by
          have := l3.1
          omega
        rcases l3.2 l4 with x | ⟨x, y⟩
        · left; omega
        · right; omega
      · exact ⟨by omega, fun _ h => absurd h hk⟩
theorem idxN_asc (bs : List Int) (x : Int) : (idxN bs x).Pairwise (· < ·) := List.Pairwise.filter _ List.pairwise_lt_range
theorem MJ_idxN {as bs : List Int} {p q : Int} : MJ as (idxN bs) p q ↔ 0 ≤ q ∧ q < bs.length ∧ bs.getD q.toNat 0 = as.getD p.toNat 0 := by
  unfold MJ idxN
  constructor
  · rintro ⟨j, hj, rfl⟩
    rw [List.mem_filter, List.mem_range, beq_iff_eq] at hj
    refine ⟨by omega, by omega, ?_⟩
    rw [Int.toNat_natCast, List.getD_eq_getElem?_getD, hj.2]; rfl
  · rintro ⟨h0, h1, h2⟩
    refine ⟨q.toNat, ?_, by omega⟩
    rw [List.mem_filter, List.mem_range, beq_iff_eq]
    refine ⟨by omega, ?_⟩
    rw [← h2, List.getD_eq_getElem?_getD, List.getElem?_eq_getElem (by omega)]; rfl
theorem Longest.inB {as bs : List Int} {alo ahi blo bhi : Int} {M : Int → Int → Prop} {b : Best} (h : Longest M alo ahi blo bhi b) (ha : ahi ≤ as.length) (hb : bhi ≤ bs.length) : InB as bs alo blo b := by
  have hk := h.k0
  by_cases h0 : b.2.2 = 0
  · have := h.zero h0
    rw [this]
    exact ⟨Int.le_refl _, Int.le_refl _, Int.le_refl _, fun h => absurd h (Int.lt_irrefl _), fun h => absurd h (Int.lt_irrefl _)⟩
  · have c := h.com (by omega)
    have := c.a0; have := c.a1; have := c.b0; have := c.b1
    exact ⟨by omega, by omega, hk, fun _ => by omega, fun _ => by omega⟩
theorem down_id {c : Int → Int → Bool} {alo blo : Int} {n : Nat} {b : Best} (h : ¬ (b.1 > alo ∧ b.2.1 > blo ∧ c (b.1 - 1) (b.2.1 - 1) = true)) : down c alo blo n b = b := by cases n with | zero => rfl | succ n => unfold down; rw [if_neg h]
theorem up_id {c : Int → Int → Bool} {ahi bhi : Int} {n : Nat} {b : Best} (h : ¬ (b.1 + b.2.2 < ahi ∧ b.2.1 + b.2.2 < bhi ∧ c (b.1 + b.2.2) (b.2.1 + b.2.2) = true)) : up c ahi bhi n b = b := by cases n with | zero => rfl | succ n => unfold up; rw [if_neg h]
theorem flmF_eq {as bs : List Int} {alo ahi blo bhi : Int} (hb0 : 0 ≤ blo) (hb : bhi ≤ bs.length) : flmF as bs (idxN bs) (fun _ => false) alo ahi blo bhi = (outS as (idxN bs) alo blo bhi (ahi - alo).toNat).2 := by
  have Lg := outS_longest (as := as) (alo := alo) (ahi := ahi) (blo := blo) (bhi := bhi) (idxN_asc bs)
  unfold flmF
  generalize (outS as (idxN bs) alo blo bhi (ahi - alo).toNat).2 = b at *
  have hk := Lg.k0
  have e1 : downAll (cnd as bs (fun _ => false) false) alo blo b = b := down_id fun ⟨h1, h2, h3⟩ => by
    have hpos : 0 < b.2.2 := by
      rcases Int.lt_or_eq_of_le hk with h | h
      · exact h
      · have := Lg.zero h.symm; rw [this] at h1; exact absurd h1 (Int.lt_irrefl _)
    have c := Lg.com hpos
    have := c.a0; have := c.a1; have := c.b0; have := c.b1
    have := (Lg.max (b.1 - 1) (b.2.1 - 1) (b.2.2 + 1) ⟨by omega, by omega, by omega, by omega, by omega, fun t h0 h1' => ?_⟩).1
    · omega
    · by_cases ht : t = 0
      · subst ht
        have x1 : b.1 - 1 + 0 = b.1 - 1 := by omega
        have x2 : b.2.1 - 1 + 0 = b.2.1 - 1 := by omega
        rw [x1, x2, MJ_idxN]
        simp only [cnd, beq_self_eq_true, Bool.true_and, beq_iff_eq] at h3
        exact ⟨by omega, by omega, h3.symm⟩
      · have := c.eq (t - 1) (by omega) (by omega)
        have x1 : b.1 + (t - 1) = b.1 - 1 + t := by omega
        have x2 : b.2.1 + (t - 1) = b.2.1 - 1 + t := by omega
        rw [x1, x2] at this; exact this
  have e2 : upAll (cnd as bs (fun _ => false) false) ahi bhi b = b := up_id fun ⟨h1, h2, h3⟩ => by
    have hc : alo ≤ b.1 ∧ blo ≤ b.2.1 ∧ ∀ t, 0 ≤ t → t < b.2.2 → MJ as (idxN bs) (b.1 + t) (b.2.1 + t) := by
      by_cases h0 : b.2.2 = 0
      · have := Lg.zero h0
        rw [this]
        exact ⟨Int.le_refl _, Int.le_refl _, fun t a c => absurd (show t < 0 from c) (by omega)⟩
      · have c := Lg.com (by omega)
        exact ⟨c.a0, c.b0, c.eq⟩
    have := (Lg.max b.1 b.2.1 (b.2.2 + 1) ⟨hc.1, by omega, hc.2.1, by omega, by omega, fun t h0 h1' => ?_⟩).1
    · omega
    · by_cases ht : t = b.2.2
      · subst ht
        rw [MJ_idxN]
        simp only [cnd, beq_self_eq_true, Bool.true_and, beq_iff_eq] at h3
        exact ⟨by omega, by omega, h3.symm⟩
      · exact hc.2.2 t h0 (by omega)
  have e3 : downAll (cnd as bs (fun _ => false) true) alo blo b = b := down_id fun ⟨_, _, h3⟩ => by simp [cnd] at h3
  have e4 : upAll (cnd as bs (fun _ => false) true) ahi bhi b = b := up_id fun ⟨_, _, h3⟩ => by simp [cnd] at h3
  rw [e1, e2, e3, e4]
theorem flmF_longest {as bs : List Int} {alo ahi blo bhi : Int} (hb0 : 0 ≤ blo) (hb : bhi ≤ bs.length) : Longest (MJ as (idxN bs)) alo ahi blo bhi (flmF as bs (idxN bs) (fun _ => false) alo ahi blo bhi) := by
  rw [flmF_eq hb0 hb]; exact outS_longest (idxN_asc bs)
end Mine

open PySem PySem.W PyProof.Rows PySem.Calls Builtin
set_option maxRecDepth 100000
set_option maxHeartbeats 4000000
namespace Mine
structure MatK (prog : Program) (w : World) (K : Frag) : Prop where
  call : specialIn K (.ref 135) "__call__" = some (some (.builtin "type.__call__"))
  typ : instIn K (.ref 135) (.type "type") = some true
  made : peek K ⟨prog, w.params⟩ (Bind.madeBy (.ref 135)) = some none
  chk : ∀ a, peek K ⟨prog, w.params⟩ (checkBuiltinCall "tuple.__new__" ⟨[.ref 135, a], []⟩) = some ()
  mro : peek K ⟨prog, w.params⟩ (mroOf (.ref 135)) = some [.ref 135, .type "tuple", .type "object"]
  here : peek K ⟨prog, w.params⟩ (Bind.madeHere "tuple.__new__" (.ref 135)) = some ()
  isty : peek K ⟨prog, w.params⟩ (isType (.ref 135)) = some true
  self : mroIn K 135 (.ref 135) = some true
  top : mroIn K 135 (.type "object") = some true
  tup : mroIn K 135 (.type "tuple") = some true
  init : findIn K (.ref 135) "__init__" = some (some (.builtin "object.__init__"))
  reads : readsIn K 135 (.type "type") = true
  find : findCls K (.ref 135) (.type "type") "__new__" = some (.get (.builtin "staticmethod.__get__") (.ref 136) .none (.ref 135))
  sm : recIn K 136 "staticmethod" = some [.ref 82]
  tnew : findCls K (.type "tuple") (.type "type") "__new__" = some (.val (.builtin "tuple.__new__"))
  del : ∃ oc od cd sl, K.lookup 135 = some ⟨oc, od, .cls cd, sl⟩ ∧ cd.hasDel = false
def MadeBack (K : Frag) (R : Result → Shared → Prop) (r : Result) (s' : Shared) : Prop := match r with
  | .ok (.ret v) => ∃ x o, v = .ref x ∧ s'.heap.get? x = some o ∧ o.cls = .ref 135 ∧ K.In s'.heap ∧ R (.ok (.ret (.ref x))) s'
  | .ok _ => False
  | .error e => R (.error e) s'
theorem oi_args4 (a b c d : Value) : argsOk "object.__init__" ⟨[a, b, c, d], []⟩ := by unfold argsOk; kernel_rfl
section
variable {prog : Program} {w : World} {A : Around} {K : Frag} {R : Result → Shared → Prop} {h : Heap} {g : Array GenState} {d : Drawn} {t : Nat} {os : OsState}
theorem oi_mat (Y : MatK prog w K) {x : Addr} {o : Obj} {u1 u2 u3 : Value} (X : K.In h) (hx : h.get? x = some o) (hc : o.cls = .ref 135) (q : R (.ok (.ret .none)) ⟨h, g, d, t, os⟩) :
    codeAny (model prog w) A (.call (.builtin "object.__init__") ⟨[.ref x, u1, u2, u3], []⟩) R ⟨h, g, d, t, os⟩ := by
  have t1 : Looks (model prog w) h (typeOf (.ref x)) (.ref 135) := by rw [← hc]; exact (Looks.ld hx).andThen .now
  have t2 : Looks (model prog w) h (isInstance (.ref x) (.type "object")) true := t1.andThen (looks_mroIn X Y.top)
  have t3 := looks_findIn (M := model prog w) X Y.init
  have t4 : Looks (model prog w) h (Bind.madeBy (.ref 135)) none := Looks.of_peek X Y.made
  refine codeAny_call_builtin oi_plain entry_oi (@check_slot (model prog w) _ _ _ "object.__init__" "object" "__init__" (.ref x) [u1, u2, u3] [] _ oi_kind oi_split t2 (oi_args4 (.ref x) u1 u2 u3) ?_)
  unfold Builtin.«object.__init__»
  dsimp only
  refine wpAny_bind ?_
  refine t1.at (wpAny_bind (t3.at (wpAny_bind (t4.at ?_))))
  simp only [bne_self_eq_false, Bool.false_eq_true, if_false]
  exact wpAny_pure q
theorem mat_core (Y : MatK prog w K) {u1 u2 u3 : Value} (X : K.In h)
    (hq : codeAny (model prog w) (A.under (.builtin "type.__call__" ⟨[.ref 135, u1, u2, u3], []⟩)) (.call (.ref 82) ⟨[.ref 135, u1, u2, u3], []⟩) (MadeBack K R) ⟨h, g, d, t + 1, os⟩) :
    codeAny (model prog w) A (.call (.ref 135) ⟨[u1, u2, u3], []⟩) R ⟨h, g, d, t, os⟩ := by
  obtain ⟨oc, od, cd, sl, hC, e2⟩ := Y.del
  have call := looks_specialIn (M := model prog w) X Y.call
  have typ := looks_instIn (M := model prog w) X Y.typ
  have hm : Looks (model prog w) h (mroOf (.ref 135)) _ := Looks.of_peek X Y.mro
  have made : Looks (model prog w) h (Bind.madeBy (.ref 135)) none := Looks.of_peek X Y.made
  refine codeAny_of_tree ?_
  show wpAny _ _ (callAny (.ref 135) _) _ _ _
  refine nd_load (X _ _ hC) ?_
  show wpAny _ _ (callAny.viaDunder (.ref 135) _) _ _ _
  unfold callAny.viaDunder
  refine wpAny_bind (call.at ?_)
  dsimp only
  rw [tc_bind]
  refine wpAny_bind (wpAny_pure (wpAny_bind (wpAny_pure ?_)))
  refine wpAny_pure (a := Fin.again (.call (.builtin "type.__call__") ⟨[.ref 135, u1, u2, u3], []⟩)) (And.intro rfl ?_)
  refine codeAny_call_builtin_at (Code.quiet_builtin _ (by decide +kernel)) entry_typeCall (check_slot tc_kind tc_split typ (tc_args _ _ _) ?_)
  unfold Builtin.«type.__call__»
  dsimp only
  have f0 : (Value.ref 135 == Value.type "type") = false := rfl
  simp only [f0, Bool.false_eq_true, if_false]
  refine wpAny_bind (hm.at ?_)
  simp only [List.isEmpty_cons, Bool.false_eq_true, if_false]
  refine wpAny_bind (made.at ?_)
  dsimp only
  refine wpAny_bind ?_
  refine cls_bind X Y.reads Y.find ?_
  refine wpAny_call (sm_get X Y.sm ?_)
  dsimp only
  refine handed_on (by rfl) ?_
  refine wpAny_bind (wpAny_holding (wpAny_call ?_))
  refine codeAny_mono hq fun r s' z => ?_
  rcases r with e | (v | _ | _ | _) <;> first | exact z | exact z.elim | skip
  obtain ⟨x, o, rfl, hx, hc, X', q⟩ := z
  obtain ⟨h', g', d', t', os'⟩ := s'
  have t1 : Looks (model prog w) h' (typeOf (.ref x)) (.ref 135) := by rw [← hc]; exact (Looks.ld hx).andThen .now
  have t2 : Looks (model prog w) h' (isInstance (.ref x) (.ref 135)) true := t1.andThen (looks_mroIn X' Y.self)
  refine wpAny_bind (t2.at ?_)
  simp only [Bool.not_true, Bool.false_eq_true, if_false]
  refine wpAny_bind (wpAny_holding ?_)
  unfold callSpecial? specialOf
  refine wpAny_bind (wpAny_bind (t1.at ((looks_findIn X' Y.init).at (wpAny_holding ?_))))
  rw [oi_bind]
  refine wpAny_bind (wpAny_pure (wpAny_bind (wpAny_call (oi_mat Y X' hx hc ?_))))
  exact wpAny_pure (wpAny_pure q)
end
end Mine

open PySem PySem.W PyProof.Rows PySem.Calls Builtin
set_option maxRecDepth 100000
set_option maxHeartbeats 4000000
namespace Mine
section
variable {prog : Program} {w : World} {A : Around} {E : Value → Shared → Prop} {B : Shared} {env : Env} {m : Loc} {hp : Hp} {K : Frag}
theorem plain_tn : plainId "tuple.__new__" = true := by decide +kernel
theorem CL_mat {a b c : AV} {Q : AV → Hp → Prop} (G : Gnd K B) (Y : MatK prog w K)
    (h : ∀ vs, CD (model prog w) (A.under (.builtin "type.__call__" ⟨.ref 135 :: vs, []⟩)) E B env (.ref 82) m [.ref 135, a, b, c] hp fun v hp' => (∃ xs, v = .mat xs) ∧ Q v hp') :
    CL (model prog w) A E B env (.ref 135) m [a, b, c] hp Q := fun s vs r hv => by
  obtain ⟨u1, u2, u3, rfl, h1, h2, h3⟩ : ∃ u v w, vs = [u, v, w] ∧ VR s.heap a u ∧ VR s.heap b v ∧ VR s.heap c w := by
    simp only [VRs] at hv; obtain ⟨v, r, rfl, h1, u, r', rfl, h2, z, r'', rfl, h3, rfl⟩ := hv; exact ⟨_, _, _, rfl, h1, h2, h3⟩
  refine wpAny_call ?_
  have hh := h [u1, u2, u3] { s with toks := s.toks + 1 } [.ref 135, u1, u2, u3] (r.toks _) (by simp only [VRs]; exact ⟨_, _, rfl, VR_ref, _, _, rfl, h1, _, _, rfl, h2, _, _, rfl, h3, rfl⟩)
  obtain ⟨heap, g, d, t, os⟩ := s
  refine mat_core Y (G.X.keeps r.keep) (codeAny_mono hh fun rr s' z => ?_)
  rcases rr with e | (v | _ | _ | _) <;> first | exact z | exact z.elim | skip
  obtain ⟨av, hp', r', le', hv', ⟨xs, rfl⟩, q⟩ := z
  have hv2 := hv'
  simp only [VR] at hv'
  obtain ⟨x, us, rfl, ⟨o, ho, hc, n, hd⟩, hu⟩ := hv'
  exact ⟨x, o, rfl, ho, hc, G.X.keeps r'.keep, _, hp', r', le', hv2, q⟩
theorem CL_tnew {xs : List AV} {Q : AV → Hp → Prop} (G : Gnd K B) (Y : MatK prog w K) (hsz : xs.length ≤ sizeLine) (h : Q (.mat xs) hp) : CL (model prog w) A E B env (.builtin "tuple.__new__") m [.ref 135, .tup xs] hp Q := fun s vs r hv => by
  obtain ⟨v, u, rfl, h1, h2⟩ := VRs_two hv
  simp only [VR] at h1 h2
  subst h1
  obtain ⟨a, us, rfl, ⟨o, ho, hc, n, hd⟩, hu⟩ := h2
  have hlen : us.size ≤ sizeLine := by rw [← Array.length_toList, hu.length]; exact hsz
  have X := G.X.keeps r.keep
  obtain ⟨oc, od, cd, sl, hC, e2⟩ := Y.del
  refine wpAny_call (codeAny_call_builtin plain_tn PySem.F.entry_tuple_new (Looks.here (Looks.of_peek X (Y.chk _)) ?_))
  unfold Builtin.«tuple.__new__»
  dsimp only
  refine wpAny_bind ((Looks.of_peek (M := model prog w) X Y.isty).here ?_)
  simp only [Bool.not_true, Bool.false_eq_true, if_false]
  refine wpAny_bind ((looks_mroIn X Y.tup).here ?_)
  simp only [Bool.not_true, Bool.false_eq_true, if_false]
  refine wpAny_bind ((Looks.of_peek (M := model prog w) X Y.here).here ?_)
  refine wpAny_bind ((looks_findIn X Y.init).here ?_)
  simp only [beq_self_eq_true, if_true]
  refine wpAny_bind ?_
  refine wpAny_of_eq (a := ()) (by rfl) ?_
  refine wpAny_bind (wpAny_of_eq (a := ()) (by rfl) ?_)
  have f0 : (Value.ref 135 == Value.type "tuple") = false := rfl
  simp only [f0, Bool.false_eq_true, if_false]
  refine wpAny_bind (wpAny_collect_seq (hsz := hlen) a (.inr rfl) ho hc hd fun h' hk => ?_)
  refine wpAny_bind (wpAny_pure ?_)
  refine wpAny_bind (wpAny_alloc ?_)
  refine wpAny_bind ?_
  unfold newObj
  dsimp only
  rw [if_neg (by simp only [List.size_toArray, Array.length_toList]; omega)]
  unfold newObjAsIs classHasDel
  have hC' := hk _ _ (X _ _ hC)
  refine wpAny_bind (wpAny_alloc (wpAny_bind (wpAny_bind (wpAny_load (Heap.get?_push_of_some _ (Heap.get?_push_of_some _ hC')) (wpAny_pure ?_)))))
  rw [e2]
  refine wpAny_pure (wpAny_pure ?_)
  obtain ⟨r1, le1⟩ := r.grown hk s.toks
  have r2 := (r1.push emptyDict).push { cls := .ref 135, dict := some h'.objs.size, data := .seq us.toList.toArray }
  have le2 : ImmLe s.heap ((h'.push emptyDict).push { cls := .ref 135, dict := some h'.objs.size, data := .seq us.toList.toArray }) := ImmLe.keep fun b o e => Heap.get?_push_of_some _ (Heap.get?_push_of_some _ (hk _ _ e))
  refine ⟨.mat xs, hp, r2, le2, ?_, h⟩
  simp only [VR]
  exact ⟨_, us.toList.toArray, rfl, ⟨_, Heap.get?_push_size _ rfl, rfl, 0, rfl⟩, by simpa using hu.mono le2⟩
theorem getm_tnew {s : Shared} {pl : Sem Bool} {Q : Value × List Value → Shared → Prop} (X : K.In s.heap) (Y : MatK prog w K)
    (h : Q (.builtin "tuple.__new__", []) { s with toks := s.toks + 1 }) : wpAny (model prog w) A (getMethod (.type "tuple") (PySem.Str.ofString "__new__") pl) Q E s := by
  have hstub : opaqueClassAbove (.type "tuple") = pure none := by unfold opaqueClassAbove; dsimp only; rw [show Manifest.isStub "tuple" = false by decide +kernel]; rfl
  have ht : typeOf (.type "tuple") = pure (.type "type") := by first | rfl | kernel_rfl
  have L0 : Looks (model prog w) s.heap (typeOf (.type "tuple")) (.type "type") := Looks.of_pure ht
  have hg : findIn K (.type "type") "__getattribute__" = some (some (.builtin "type.__getattribute__")) := type_tga
  unfold getMethod specialOf
  refine wpAny_bind (wpAny_bind (L0.here ((looks_findIn X hg).here ?_)))
  dsimp only
  rw [if_pos canon_tga]
  refine wpAny_bind (wpAny_mono (Q := fun v => Q (v, [])) (E := E) ?_ (fun _ _ z => wpAny_pure z) fun _ _ z => z)
  have LO : Looks (model prog w) s.heap (opaqueClassAbove (.type "tuple")) none := Looks.of_pure hstub
  refine cls_open X LO L0 hg (looks_hook X (r := none) (by rfl)) (by show subIn K _ _ = _; rfl) Y.tnew ?_
  exact wpAny_pure (handed_on (by rfl) h)
theorem EV_tnew {o e : Expr} {rest : List Expr} {apos pos} {pl : Sem Bool} {Q : AV → Hp → Prop} (G : Gnd K B) (Y : MatK prog w K)
    (h : EV (model prog w) A E B env o m hp fun v hp₁ => v = .ty "tuple" ∧ EVS (model prog w) A E B env (e :: rest) m hp₁ fun vs hp₂ => CL (model prog w) A E B env (.builtin "tuple.__new__") m vs hp₂ Q)
    (hc : eval (.Call (.Attribute o (PySem.Str.ofString "__new__") apos) (e :: rest) [] pos) env = (do
      let ov ← eval o env
      standAt apos.atName
      let (f, first) ← holding [ov] (getMethod ov (PySem.Str.ofString "__new__") pl)
      callWith pos f first (backTo pos (starEach (e :: rest) env)) []) := by rfl)
    (he : starEach (e :: rest) env = (false, eval e env) :: starEach rest env := by rfl) (hplain : (backTo pos (starEach rest env)).any (·.1) = false := by rfl) :
    EV (model prog w) A E B env (.Call (.Attribute o (PySem.Str.ofString "__new__") apos) (e :: rest) [] pos) m hp Q := fun s r => by
  refine MethodCall_ (pl := pl) (h.use r fun u s₁ l hp₁ r₁ le₁ hu x => ?_) hc
  obtain ⟨rfl, q⟩ := x
  simp only [VR] at hu; subst hu
  refine getm_tnew (G.X.keeps r₁.keep) Y ?_
  refine callWith_builtin1 (wpAny_mono (q pos _ (r₁.toks _)) (fun vs s₂ ⟨avs, hp₂, r₂, le₂, hv, q⟩ => ?_) fun _ _ x => x) he hplain
  exact wpAny_mono (q s₂ vs r₂ hv) (fun v s₃ ⟨av, hp₃, r₃, le₃, hv, q⟩ => ⟨av, hp₃, r₃, (le₁.trans le₂).trans le₃, hv, q⟩) fun _ _ x => x
theorem EV_attrBT {o : Expr} {name : PySem.Str} {pos} {T id gid : String} {Q : AV → Hp → Prop} (b : BndOk T name id gid)
    (hck : ∀ {A : Around} {a : Addr} {s : Shared} {o : Obj} {Q : Value → Shared → Prop}, s.heap.get? a = some o → o.cls = .type T → Q (.ref s.heap.objs.size) { s with heap := s.heap.push (bndOb id a) } → wpAny (model prog w) A (call (.builtin "method_descriptor.__get__") [.builtin id, .ref a, .type T]) Q (fun _ _ => False) s)
    (h : EV (model prog w) A E B env o m hp fun v hp₁ => ∃ a, v = .ref a ∧ (∀ s, Rel B (hp₁.set env.locals (.ns m)) s → ∃ ob, s.heap.get? a = some ob ∧ ob.cls = .type T ∧ ob.dict = none ∧ ∀ c, ob.data ≠ .cls c) ∧ ∀ x, hp₁ x = none → x ≠ env.locals → Q (.ref x) (hp₁.set x (.obj (bndOb id a))))
    (he : eval (.Attribute o name pos) env = (do
      let ov ← eval o env
      standAt pos.atName
      let r ← holding [ov] (getAttr ov name true)
      letTemporaryGo o ov r
      pure r) := by with_unfolding_all rfl) :
    EV (model prog w) A E B env (.Attribute o name pos) m hp Q := fun s r => by
  rw [he]
  refine wpAny_bind (h.use r fun v s₁ av hp₁ r₁ le₁ hv x => wpAny_bind (wpAny_standAt (wpAny_bind (wpAny_holding ?_))))
  obtain ⟨a, rfl, hty, q⟩ := x
  simp only [VR] at hv; subst hv
  obtain ⟨ob, ho, hcl, hdn, hn⟩ := hty s₁ r₁
  refine getAttr_bound b ho hcl hdn hn (fun ho hc h => hck ho hc h) ?_
  have n := r₁.newAt (bndOb id a) (.obj (bndOb id a)) ⟨Heap.get?_push_size _ rfl, bndOb_notImm⟩
  exact wpAny_bind (wpAny_letTemporaryGo (wpAny_pure ⟨.ref _, _, n.1.toks _, le₁.trans n.2.2.2, VR_ref, q _ n.2.1 n.2.2.1⟩))
end
end Mine

open PySem PySem.W PyProof.Rows PySem.Calls
set_option maxRecDepth 100000
namespace Mine
theorem matK (w : World) : MatK PW w (KW w) where
  call := by kernel_rfl
  typ := by kernel_rfl
  made := by kernel_rfl
  chk _ := by kernel_rfl
  mro := by kernel_rfl
  here := by kernel_rfl
  isty := by kernel_rfl
  self := by kernel_rfl
  top := by kernel_rfl
  tup := by kernel_rfl
  init := by kernel_rfl
  reads := by kernel_rfl
  find := by kernel_rfl
  sm := by kernel_rfl
  tnew := by kernel_rfl
  del := ⟨_, _, _, _, rfl, by kernel_rfl⟩
theorem blt_tuple : bootBuiltins (PySem.Str.ofString "tuple") = some (.type "tuple") := by boot_fast
theorem no_tuple (w : World) : nsIn (KW w) mainGlobals (S "tuple") = some none := by kernel_rfl
section
variable {w : World} {A : Around} {E : Value → Shared → Prop} {B : Shared} {env : Env} {m : Loc} {hp : Hp}
theorem CL_Match {a b c : AV} {Q : AV → Hp → Prop} (G : Gnd (KW w) B) (hroom : A.depth + 1 < recursionLimit) (h : Q (.mat [a, b, c]) hp) : CL (model PW w) A E B env (.ref 135) m [a, b, c] hp Q := by
  refine CL_mat G (matK w) fun vs0 => ?_
  refine CD_fn (bs := [(S "size", c), (S "b", b), (S "a", a), (S "_cls", .ref 135)]) (body := dBody (inS (topS PW 3) 4)) G (kMNew w) (by kernel_rfl) rfl (by show A.depth + 1 < _; omega) (fun s vs hv _ => ?_) (by kernel_rfl) (by decide) (fun L hL hLe => ?_)
  · obtain ⟨v, u, z, y, rfl, h1, h2, h3, h4⟩ := VRs_four hv
    exact ⟨[(S "_cls", v), (S "a", u), (S "b", z), (S "size", y)], BindsTo.of_eq rfl, rfl, by simp only [List.reverse_cons, List.reverse_nil, List.nil_append, List.cons_append, List.map_cons, List.map_nil, VRs]; exact ⟨_, _, rfl, h4, _, _, rfl, h3, _, _, rfl, h2, _, _, rfl, h1, rfl⟩⟩
  · have g0 : locOf [(S "size", c), (S "b", b), (S "a", a), (S "_cls", .ref 135)] (S "_cls") = some (.ref 135) := by simp only [locOf_get, String.reduceEq, if_false, if_true]
    have g1 : locOf [(S "size", c), (S "b", b), (S "a", a), (S "_cls", .ref 135)] (S "a") = some a := by simp only [locOf_get, String.reduceEq, if_false, if_true]
    have g2 : locOf [(S "size", c), (S "b", b), (S "a", a), (S "_cls", .ref 135)] (S "b") = some b := by simp only [locOf_get, String.reduceEq, if_false, if_true]
    have g3 : locOf [(S "size", c), (S "b", b), (S "a", a), (S "_cls", .ref 135)] (S "size") = some c := by simp only [locOf_get, if_true]
    generalize hm0 : locOf [(S "size", c), (S "b", b), (S "a", a), (S "_cls", .ref 135)] = m0 at *
    conv => arg 6; whnf
    refine EXs_cons (EX_doc ?_)
    refine EXs_cons (EX_Return (EV_tnew G (matK w) (EV_blt G (no_tuple w) blt_tuple (by decide) (fun _ => VR_ty) ⟨rfl, EVS_cons (EV_local g0 (EVS_cons (EV_Tuple (EVS_cons (EV_local g1 (EVS_cons (EV_local g2 (EVS_cons (EV_local g3 (EVS_nil ⟨sz rfl, EVS_nil (CL_tnew G (matK w) (sz rfl) ?_)⟩))))))))))⟩)))
    exact ret_same hL ⟨⟨_, rfl⟩, h⟩
theorem CL_flm {x dx aA bA d j : Addr} {ma : Loc} {as bs : List Int} {aj : Bool} {kvs : List (Int × AV)} {alo ahi blo bhi : Int} {Q : AV → Hp → Prop} (G : Gnd (KW w) B) (hh : A.handled = none) (hroom : A.depth + 3 < recursionLimit) (I : Ins hp env.locals x dx 242 ma) (F : SMf ma aA bA d j aj)
    (R : B2J hp0 hp env.locals d kvs bs) (hj : hp j = some (.set (fun _ => false) 0)) (hjL : j ≠ env.locals) (la : Lst B hp env.locals aA (as.map .int)) (lb : Lst B hp env.locals bA (bs.map .int))
    (ha0 : 0 ≤ alo) (haa : alo < 2 ^ 62) (ha1 : ahi ≤ as.length) (haz : -(2 ^ 62) ≤ ahi) (hb0 : 0 ≤ blo) (hb1 : bhi ≤ bs.length) (hla : as.length ≤ 900) (hlb : bs.length ≤ 900)
    (h : ∀ b : Best, Longest (MJ as (idxN bs)) alo ahi blo bhi b → Q (.mat [.int b.1, .int b.2.1, .int b.2.2]) hp) :
    CL (model PW w) A E B env (.ref 196) m [.ref x, .int alo, .int ahi, .int blo, .int bhi] hp Q := by
  refine CD.cl (CD_fn (bs := [(S "bhi", .int bhi), (S "blo", .int blo), (S "ahi", .int ahi), (S "alo", .int alo), (S "self", .ref x)]) (body := dBody (mS 6)) G (kFlm w) (by kernel_rfl) rfl (by omega) (fun s vs hv hk => ?_) (by kernel_rfl) (by decide) (fun L hL hLe => ?_))
  · obtain ⟨v, u, z, y, t, rfl, h1, h2, h3, h4, h5⟩ : ∃ u v w z t, vs = [u, v, w, z, t] ∧ VR s.heap (.ref x) u ∧ VR s.heap (.int alo) v ∧ VR s.heap (.int ahi) w ∧ VR s.heap (.int blo) z ∧ VR s.heap (.int bhi) t := by
      simp only [VRs] at hv; obtain ⟨v, r, rfl, h1, u, r1, rfl, h2, z, r2, rfl, h3, y, r3, rfl, h4, t, r4, rfl, h5, rfl⟩ := hv; exact ⟨_, _, _, _, _, rfl, h1, h2, h3, h4, h5⟩
    exact ⟨[(S "self", v), (S "alo", u), (S "ahi", z), (S "blo", y), (S "bhi", t)], binds_K (G.X.keeps hk) rfl (by rfl) rfl rfl rfl, rfl, by simp only [List.reverse_cons, List.reverse_nil, List.nil_append, List.cons_append, List.map_cons, List.map_nil, VRs]; exact ⟨_, _, rfl, h5, _, _, rfl, h4, _, _, rfl, h3, _, _, rfl, h2, _, _, rfl, h1, rfl⟩⟩
  · have I' : Ins (hp.set env.locals (.ns m)) L x dx 242 ma := I.call hL
    have la' : Lst B (hp.set env.locals (.ns m)) L aA (as.map .int) := la.call hL
    have lb' : Lst B (hp.set env.locals (.ns m)) L bA (bs.map .int) := lb.call hL
    have R' : B2J hp0 (hp.set env.locals (.ns m)) L d kvs bs := R.call hL
    have hj' : (hp.set env.locals (.ns m)) j = some (.set (fun _ => false) 0) := by rw [Hp.set_ne _ _ hjL]; exact hj
    have hjL' : j ≠ L := Hp.ne_of hj hL
    have g0 : locOf [(S "bhi", AV.int bhi), (S "blo", .int blo), (S "ahi", .int ahi), (S "alo", .int alo), (S "self", .ref x)] (S "self") = some (.ref x) := by simp only [locOf_get, String.reduceEq, if_false, if_true]
    have g1 : locOf [(S "bhi", AV.int bhi), (S "blo", .int blo), (S "ahi", .int ahi), (S "alo", .int alo), (S "self", .ref x)] (S "alo") = some (.int alo) := by simp only [locOf_get, String.reduceEq, if_false, if_true]
    have g2 : locOf [(S "bhi", AV.int bhi), (S "blo", .int blo), (S "ahi", .int ahi), (S "alo", .int alo), (S "self", .ref x)] (S "ahi") = some (.int ahi) := by simp only [locOf_get, String.reduceEq, if_false, if_true]
    have g3 : locOf [(S "bhi", AV.int bhi), (S "blo", .int blo), (S "ahi", .int ahi), (S "alo", .int alo), (S "self", .ref x)] (S "blo") = some (.int blo) := by simp only [locOf_get, String.reduceEq, if_false, if_true]
    have g4 : locOf [(S "bhi", AV.int bhi), (S "blo", .int blo), (S "ahi", .int ahi), (S "alo", .int alo), (S "self", .ref x)] (S "bhi") = some (.int bhi) := by simp only [locOf_get, if_true]
    generalize hm0 : locOf [(S "bhi", AV.int bhi), (S "blo", .int blo), (S "ahi", .int ahi), (S "alo", .int alo), (S "self", .ref x)] = m0 at *
    have hq0 : Hp.Le (hp.set env.locals (.ns m)) (hp.set env.locals (.ns m)) := .refl _
    generalize hq : hp.set env.locals (.ns m) = hp1 at I' la' lb' R' hj' hq0 ⊢
    conv => arg 6; whnf
    refine EXs_cons (EX_doc ?_)
    refine EXs_cons (EX_AssignT (EV_Tuple (EVS_cons (EV_self G g0 I' F.a (EVS_cons (EV_self G g0 I' F.b ?_))))))
    refine EVS_cons (EV_self G g0 I' F.b2j (EVS_cons ?_))
    refine EV_attrBT bnd_scont (fun ho hc h => mdg_run_scont ho hc h) (EV_self G g0 I' F.bj ⟨j, rfl, is_set' hj' hjL', fun ib hib hibL => EVS_nil ⟨sz rfl, ?_⟩⟩)
    refine ASG_Tuple hh rfl rfl rfl (ASGS_cons (ASG_Name (ASGS_cons (ASG_Name (ASGS_cons (ASG_Name (ASGS_cons (ASG_Name (ASGS_nil ?_)))))))))
    have le1 : Hp.Le hp1 (hp1.set ib (.obj (bndOb "set.__contains__" j))) := (Hp.Le.refl _).set hib _
    generalize hm1 : upd (upd (upd (upd m0 _ _) _ _) _ _) _ _ = m1
    have k1 : m1 (S "alo") = some (.int alo) := by subst hm1; (first | assumption | (simp only [upd_get, String.reduceEq, if_true, if_false]; done) | (simp only [upd_get, String.reduceEq, if_true, if_false]; first | assumption | rfl))
    have k2 : m1 (S "ahi") = some (.int ahi) := by subst hm1; (first | assumption | (simp only [upd_get, String.reduceEq, if_true, if_false]; done) | (simp only [upd_get, String.reduceEq, if_true, if_false]; first | assumption | rfl))
    have k3 : m1 (S "blo") = some (.int blo) := by subst hm1; (first | assumption | (simp only [upd_get, String.reduceEq, if_true, if_false]; done) | (simp only [upd_get, String.reduceEq, if_true, if_false]; first | assumption | rfl))
    have k4 : m1 (S "bhi") = some (.int bhi) := by subst hm1; (first | assumption | (simp only [upd_get, String.reduceEq, if_true, if_false]; done) | (simp only [upd_get, String.reduceEq, if_true, if_false]; first | assumption | rfl))
    have k5 : m1 (S "a") = some (.ref aA) := by subst hm1; (first | assumption | (simp only [upd_get, String.reduceEq, if_true, if_false]; done) | (simp only [upd_get, String.reduceEq, if_true, if_false]; first | assumption | rfl))
    have k6 : m1 (S "b") = some (.ref bA) := by subst hm1; (first | assumption | (simp only [upd_get, String.reduceEq, if_true, if_false]; done) | (simp only [upd_get, String.reduceEq, if_true, if_false]; first | assumption | rfl))
    have k7 : m1 (S "b2j") = some (.ref d) := by subst hm1; (first | assumption | (simp only [upd_get, String.reduceEq, if_true, if_false]; done) | (simp only [upd_get, String.reduceEq, if_true, if_false]; first | assumption | rfl))
    have k8 : m1 (S "isbjunk") = some (.ref ib) := by subst hm1; (first | assumption | (simp only [upd_get, String.reduceEq, if_true, if_false]; done) | (simp only [upd_get, String.reduceEq, if_true, if_false]; first | assumption | rfl))
    clear hm1 g0 g1 g2 g3 g4
    refine EXs_cons (EX_If (TST_Compare1 (EV_local k2 (EV_none (OP_isNone (TRU_bool (EXs_nil ?_)))))))
    refine EXs_cons (EX_If (TST_Compare1 (EV_local k4 (EV_none (OP_isNone (TRU_bool (EXs_nil ?_)))))))
    refine EXs_cons (EX_AssignSw hh (names := [S "besti", S "bestj", S "bestsize"]) (EV_Tuple (EVS_cons (EV_local k1 (EVS_cons (EV_local k3 (EVS_cons (EV_int (EVS_nil ⟨sz rfl, _, rfl, rfl, ASGS_bind (ASGS_bind (ASGS_bind (ASGS_nil ?_)))⟩)))))))))
    refine EXs_cons (EX_Assign (EV_dictE fun d0 hd0 hd0L => ?_))
    refine EXs_cons (EX_Assign (EV_List (EVS_nil ⟨Nat.zero_le _, fun nt hnt hntL => ?_⟩)))
    have le2 : Hp.Le hp1 (((hp1.set ib (.obj (bndOb "set.__contains__" j))).set d0 (.dict [])).set nt (.list [])) := (le1.set (le1.none hd0) _).set ((le1.set (le1.none hd0) _).none hnt) _
    generalize hm2 : upd (upd (upd (upd (upd m1 _ _) _ _) _ _) _ _) _ _ = m2
    have p1 : m2 (S "alo") = some (.int alo) := by subst hm2; (first | assumption | (simp only [upd_get, String.reduceEq, if_true, if_false]; done) | (simp only [upd_get, String.reduceEq, if_true, if_false]; first | assumption | rfl))
    have p2 : m2 (S "ahi") = some (.int ahi) := by subst hm2; (first | assumption | (simp only [upd_get, String.reduceEq, if_true, if_false]; done) | (simp only [upd_get, String.reduceEq, if_true, if_false]; first | assumption | rfl))
    have p3 : m2 (S "blo") = some (.int blo) := by subst hm2; (first | assumption | (simp only [upd_get, String.reduceEq, if_true, if_false]; done) | (simp only [upd_get, String.reduceEq, if_true, if_false]; first | assumption | rfl))
    have p4 : m2 (S "bhi") = some (.int bhi) := by subst hm2; (first | assumption | (simp only [upd_get, String.reduceEq, if_true, if_false]; done) | (simp only [upd_get, String.reduceEq, if_true, if_false]; first | assumption | rfl))
    have p5 : m2 (S "a") = some (.ref aA) := by subst hm2; (first | assumption | (simp only [upd_get, String.reduceEq, if_true, if_false]; done) | (simp only [upd_get, String.reduceEq, if_true, if_false]; first | assumption | rfl))
    have p6 : m2 (S "b") = some (.ref bA) := by subst hm2; (first | assumption | (simp only [upd_get, String.reduceEq, if_true, if_false]; done) | (simp only [upd_get, String.reduceEq, if_true, if_false]; first | assumption | rfl))
    have p7 : m2 (S "b2j") = some (.ref d) := by subst hm2; (first | assumption | (simp only [upd_get, String.reduceEq, if_true, if_false]; done) | (simp only [upd_get, String.reduceEq, if_true, if_false]; first | assumption | rfl))
    have p8 : m2 (S "isbjunk") = some (.ref ib) := by subst hm2; (first | assumption | (simp only [upd_get, String.reduceEq, if_true, if_false]; done) | (simp only [upd_get, String.reduceEq, if_true, if_false]; first | assumption | rfl))
    have p9 : m2 (S "j2len") = some (.ref d0) := by subst hm2; (first | assumption | (simp only [upd_get, String.reduceEq, if_true, if_false]; done) | (simp only [upd_get, String.reduceEq, if_true, if_false]; first | assumption | rfl))
    have p10 : m2 (S "nothing") = some (.ref nt) := by subst hm2; (first | assumption | (simp only [upd_get, String.reduceEq, if_true, if_false]; done) | (simp only [upd_get, String.reduceEq, if_true, if_false]; first | assumption | rfl))
    have p11 : bestL m2 (alo, blo, 0) := by subst hm2; exact ⟨by (first | assumption | (simp only [upd_get, String.reduceEq, if_true, if_false]; done) | (simp only [upd_get, String.reduceEq, if_true, if_false]; first | assumption | rfl)), by (first | assumption | (simp only [upd_get, String.reduceEq, if_true, if_false]; done) | (simp only [upd_get, String.reduceEq, if_true, if_false]; first | assumption | rfl)), by (first | assumption | (simp only [upd_get, String.reduceEq, if_true, if_false]; done) | (simp only [upd_get, String.reduceEq, if_true, if_false]; first | assumption | rfl))⟩
    clear hm2 k1 k2 k3 k4 k5 k6 k7 k8
    have hd0' : d0 ≠ nt := Hp.ne_of (Hp.set_same ..) hnt
    have hibd : ib ≠ d0 := Hp.ne_of (Hp.set_same ..) hd0
    have hibn : ib ≠ nt := Hp.ne_of (show ((hp1.set ib (.obj (bndOb "set.__contains__" j))).set d0 (.dict [])) ib = some _ by rw [Hp.set_ne _ _ hibd]; exact Hp.set_same ..) hnt
    have hib2 : (((hp1.set ib (.obj (bndOb "set.__contains__" j))).set d0 (.dict [])).set nt (.list [])) ib = some (.obj (bndOb "set.__contains__" j)) := by rw [Hp.set_ne _ _ hibn, Hp.set_ne _ _ hibd]; exact Hp.set_same ..
    have hd02 : (((hp1.set ib (.obj (bndOb "set.__contains__" j))).set d0 (.dict [])).set nt (.list [])) d0 = some (.dict []) := by rw [Hp.set_ne _ _ hd0']; exact Hp.set_same ..
    have hnt2 : (((hp1.set ib (.obj (bndOb "set.__contains__" j))).set d0 (.dict [])).set nt (.list [])) nt = some (.list []) := Hp.set_same ..
    generalize ((hp1.set ib (.obj (bndOb "set.__contains__" j))).set d0 (.dict [])).set nt (.list []) = hp2 at le2 hib2 hd02 hnt2 ⊢
    have hJl : ∀ x, (idxN bs x).length ≤ 900 := fun x => Nat.le_trans (idxN_len _ _) hlb
    refine EXs_cons (EX.mono (flm_outer (A := A.deeper (callEnv fdFlm L 196)) (J := idxN bs) G hh p1 p2 p3 p4 p11 p7 p5 p10 p9 hd02 hd0L (R'.le le2).jd (la'.le le2) hnt2 hntL ha0 ha1 haa (by omega) haz hJl) fun fl m3 hp3 x => ?_)
    obtain ⟨rfl, x1, x2, x3⟩ := x
    have le3 := le2.trans x3
    have Lg := outS_longest (as := as) (alo := alo) (ahi := ahi) (blo := blo) (bhi := bhi) (idxN_asc bs)
    have IB := Lg.inB ha1 hb1
    have FF : FL B hp3 L aA bA ib j as bs (fun _ => false) 0 alo ahi blo bhi m3 := ⟨by rw [x1 _ (by decide)]; exact p1, by rw [x1 _ (by decide)]; exact p2, by rw [x1 _ (by decide)]; exact p3, by rw [x1 _ (by decide)]; exact p4, by rw [x1 _ (by decide)]; exact p5, by rw [x1 _ (by decide)]; exact p6, by rw [x1 _ (by decide)]; exact p8, la'.le le3, lb'.le le3, x3 _ _ hib2, hibL, le3 _ _ hj', hjL', ha0, hb0, ha1, hb1, by omega, by omega⟩
    refine EXs_cons (EX.mono (flm_w1 (A := A.deeper (callEnv fdFlm L 196)) hh FF x2 IB) fun fl m4 hp4 y => ?_)
    obtain ⟨rfl, rfl, y1, y2⟩ := y
    have FF2 := FF.upd y1
    refine EXs_cons (EX.mono (flm_w2 (A := A.deeper (callEnv fdFlm L 196)) FF2 y2 IB.down) fun fl m5 hp5 y => ?_)
    obtain ⟨rfl, rfl, z1, z2⟩ := y
    have FF3 := FF2.upd z1
    refine EXs_cons (EX.mono (flm_w3 (A := A.deeper (callEnv fdFlm L 196)) hh FF3 z2 IB.down.up) fun fl m6 hp6 y => ?_)
    obtain ⟨rfl, rfl, u1, u2⟩ := y
    have FF4 := FF3.upd u1
    refine EXs_cons (EX.mono (flm_w4 (A := A.deeper (callEnv fdFlm L 196)) FF4 u2 IB.down.up.down) fun fl m7 hp7 y => ?_)
    obtain ⟨rfl, rfl, v1, v2⟩ := y
    obtain ⟨b1, b2, b3⟩ := v2
    refine EXs_cons (EX_Return (EV_CallK G (f := 135) (by kernel_rfl) (EV_glob G (g_Match w) (fun _ => VR_ref) ⟨rfl, EVS_cons (EV_local b1 (EVS_cons (EV_local b2 (EVS_cons (EV_local b3 (EVS_nil ?_))))))⟩)))
    refine CL_Match (A := A.deeper (callEnv fdFlm L 196)) G (by show A.depth + 1 + 1 < _; omega) ?_
    have FE := flmF_longest (as := as) (alo := alo) (ahi := ahi) (bs := bs) hb0 hb1
    refine ret_ok (hp₂ := hp) (by rw [hq]; exact le3) hL (h _ FE)
end
end Mine

open PySem PySem.W PyProof.Rows PySem.Calls
set_option maxRecDepth 100000
namespace Mine
section
variable {prog : Program} {w : World} {A : Around} {E : Value → Shared → Prop} {B : Shared} {env : Env} {m : Loc} {hp : Hp} {K : Frag}
theorem EV_CompR {elt target iter : Expr} {ifs : List Expr} {scope : Scope} {pos : Pos} {cl : List (PySem.Str × Addr)} {Q : AV → Hp → Prop} (hh : A.handled = none) (hclos : closureFor scope env = pure cl) (hcell : ∀ y ∈ scope.names, y.2 ≠ .cell) (hnames : ∀ x ∈ scope.names, x.2 = .local → scope.names.lookup x.1 = some .local)
    (h : EV (model prog w) A E B env iter m hp fun o hp₁ => ∃ rg ob a b, o = .ref rg ∧ hp₁ rg = some (.obj ob) ∧ rg ≠ env.locals ∧ RangeOb ob a b ∧ -(2 ^ 62) ≤ a ∧ a < 2 ^ 62 ∧ -(2 ^ 62) ≤ b ∧ b < 2 ^ 62 ∧ (b - a).toNat ≤ 1000 ∧ ∀ it acc C, hp₁ it = none → it ≠ env.locals → hp₁ acc = none → acc ≠ env.locals → acc ≠ it → hp₁ C = none → C ≠ env.locals → C ≠ it → C ≠ acc →
      ∃ I : Nat → List AV → Loc → Hp → Prop, (∀ ob, I 0 [] (fun _ => none) (((hp₁.set env.locals (.ns m)).set it (.obj ob)).set acc (.list []))) ∧ (∀ i ys m₂ hp₂ ob, I i ys m₂ hp₂ → I i ys m₂ (hp₂.set it (.obj ob))) ∧ (∀ i ys m₂ hp₂ zs, I i ys m₂ hp₂ → I i ys m₂ (hp₂.set acc (.list zs))) ∧
        (∀ i ys m₂ hp₂ ob, i < (b - a).toNat → I i ys m₂ hp₂ → hp₂ it = some (.obj ob) → hp₂ acc = some (.list ys) → ASG (model prog w) A (fun _ _ => False) B (compEnvC scope cl C env) target (.int (a + i)) m₂ hp₂ fun m₃ hp₃ => TSTs (model prog w) A (fun _ _ => False) B (compEnvC scope cl C env) ifs m₃ hp₃ fun b hp₄ =>
          if b then EV (model prog w) A (fun _ _ => False) B (compEnvC scope cl C env) elt m₃ hp₄ fun v hp₅ => I (i + 1) (ys ++ [v]) m₃ hp₅ ∧ hp₅ it = some (.obj ob) ∧ hp₅ acc = some (.list ys)
          else I (i + 1) ys m₃ hp₄ ∧ hp₄ it = some (.obj ob) ∧ hp₄ acc = some (.list ys)) ∧
        (∀ ys m₂ hp₂, I (b - a).toNat ys m₂ hp₂ → hp₂ acc = some (.list ys) → ∃ hp₃, Hp.Le (hp₃.set env.locals (.ns m)) (hp₂.del it) ∧ hp₃ C = none ∧ Q (.ref acc) hp₃))
    (hs : ∀ x, foldedSetIterable iter env x = pure x := by intro _; rfl) (hkind : scope.kind = .function := by rfl) :
    EV (model prog w) A E B env (.ListComp elt [⟨target, iter, ifs, 0⟩] scope pos) m hp Q := fun s r => by
  rw [eval_ListComp]
  refine wpAny_comprehension_free (use := none) rfl hs hclos hkind hnames (h.use r fun u s₁ o hp₁ r₁ le₁ hu x => ?_)
  obtain ⟨rg, ob, a, b, rfl, hrg, hrL, ⟨t, u', v', rfl⟩, ha, ha', hb, hb', hlen, x⟩ := x
  simp only [VR] at hu; subst hu
  have hro := (r₁.at hrg hrL).1
  refine wpAny_pyIter_range hro (small_one ha ha' hb hb') ?_
  have hsz : Builtin.Range.rangeSize a b 1 = ((b - a).toNat : Int) := by rw [rangeSize_one]; split <;> omega
  have n := r₁.newAt { cls := .type "range_iterator", data := .fields #[rawInt a, rawInt (Builtin.Range.rangeSize a b 1), rawInt 1] } (.obj { cls := .type "range_iterator", data := .fields #[rawInt a, rawInt (Builtin.Range.rangeSize a b 1), rawInt 1] }) ⟨Heap.get?_push_size _ rfl, fun i => by obtain ⟨_, _, _, e⟩ := i; cases e⟩
  generalize hit : s₁.heap.objs.size = it at *
  have n2 := Rel.newAt n.1 { cls := .type "list", data := .seq #[] } (.list []) ⟨#[], 0, IsL.new _ _, by simp [VRs]⟩
  have le2 : ImmLe s.heap ((s₁.heap.push { cls := .type "range_iterator", data := .fields #[rawInt a, rawInt (Builtin.Range.rangeSize a b 1), rawInt 1] }).push { cls := .type "list", data := .seq #[] }) := (le₁.trans n.2.2.2).trans n2.2.2.2
  refine wpAny_newObj_type ?_
  dsimp only
  have n2c : hp₁.set it (.obj { cls := .type "range_iterator", data := .fields #[rawInt a, rawInt (Builtin.Range.rangeSize a b 1), rawInt 1] }) (s₁.heap.push { cls := .type "range_iterator", data := .fields #[rawInt a, rawInt (Builtin.Range.rangeSize a b 1), rawInt 1] }).objs.size = none := n2.2.1
  have n2d : (s₁.heap.push { cls := .type "range_iterator", data := .fields #[rawInt a, rawInt (Builtin.Range.rangeSize a b 1), rawInt 1] }).objs.size ≠ env.locals := n2.2.2.1
  have n2e := n2.1
  generalize hac : (s₁.heap.push { cls := .type "range_iterator", data := .fields #[rawInt a, rawInt (Builtin.Range.rangeSize a b 1), rawInt 1] }).objs.size = acc at *
  refine wpAny_newFunctionEnv hcell (by intro y hy; simp at hy) (fun h₁ hns₁ hsb₁ => ?_) hkind
  dsimp only at hns₁ hsb₁ ⊢
  have n2f : Rel B (((hp₁.set it (.obj { cls := .type "range_iterator", data := .fields #[rawInt a, rawInt (Builtin.Range.rangeSize a b 1), rawInt 1] })).set acc (.list [])).set env.locals (.ns m)) { s₁ with heap := (s₁.heap.push { cls := .type "range_iterator", data := .fields #[rawInt a, rawInt (Builtin.Range.rangeSize a b 1), rawInt 1] }).push { cls := .type "list", data := .seq #[] } } := n2e
  generalize hH2 : (s₁.heap.push { cls := .type "range_iterator", data := .fields #[rawInt a, rawInt (Builtin.Range.rangeSize a b 1), rawInt 1] }).push { cls := .type "list", data := .seq #[] } = H2 at *
  have hacit : acc ≠ it := fun e => by rw [e, Hp.set_same] at n2c; cases n2c
  have hacp : hp₁ acc = none := by rw [Hp.set_ne _ _ hacit] at n2c; exact n2c
  have fr := n2f.fresh
  have hCe : H2.objs.size ≠ env.locals := fun e => by rw [show ({ s₁ with heap := H2 } : Shared).heap.objs.size = H2.objs.size from rfl, e, Hp.set_same] at fr; cases fr
  rw [show ({ s₁ with heap := H2 } : Shared).heap.objs.size = H2.objs.size from rfl, Hp.set_ne _ _ hCe] at fr
  have hCa : H2.objs.size ≠ acc := fun e => by rw [e, Hp.set_same] at fr; cases fr
  rw [Hp.set_ne _ _ hCa] at fr
  have hCi : H2.objs.size ≠ it := fun e => by rw [e, Hp.set_same] at fr; cases fr
  rw [Hp.set_ne _ _ hCi] at fr
  generalize hC : H2.objs.size = C at *
  have k₀ : ∀ b o, H2.get? b = some o → h₁.get? b = some o := fun b o e => hsb₁.extBut b o (by rw [← hC]; exact Nat.ne_of_lt (Heap.lt_size e)) (Heap.get?_push_of_some _ e)
  obtain ⟨I, i0, iset, iacc, iturn, ifin⟩ := x it acc C n.2.1 n.2.2.1 hacp n2d hacit fr hCe hCi hCa
  have e1 : ((hp₁.set it (.obj { cls := .type "range_iterator", data := .fields #[rawInt a, rawInt (Builtin.Range.rangeSize a b 1), rawInt 1] })).set acc (.list [])).set env.locals (.ns m) = ((hp₁.set env.locals (.ns m)).set it (.obj { cls := .type "range_iterator", data := .fields #[rawInt a, rawInt (Builtin.Range.rangeSize a b 1), rawInt 1] })).set acc (.list []) := by
    rw [Hp.set_comm _ _ _ n2d, Hp.set_comm _ _ _ n.2.2.1]
  rw [e1] at n2f
  have rel : Rel B ((((hp₁.set env.locals (.ns m)).set it (.obj { cls := .type "range_iterator", data := .fields #[rawInt a, rawInt (Builtin.Range.rangeSize a b 1), rawInt 1] })).set acc (.list [])).set C (.ns fun _ => none)) { s₁ with heap := h₁, toks := s₁.toks + 0 } := by
    refine ⟨fun b o e => k₀ _ _ (n2f.keep b o e), fun z o' e => ?_, n2f.os, n2f.bare, ?_⟩
    · by_cases hz : z = C
      · subst hz
        rw [Hp.set_same] at e
        cases e
        exact ⟨by rw [← hC]; exact n2f.size, _, hns₁, ⟨fun x v e => by simp at e, fun x _ => rfl⟩⟩
      · rw [Hp.set_ne _ _ hz] at e
        exact ⟨(n2f.objs z o' e).1, (n2f.objs z o' e).2.here (ImmLe.keep k₀) fun o'' e => k₀ _ _ e⟩
    · show _ ≤ h₁.objs.size
      rw [hsb₁.1, Heap.size_push]
      exact Nat.le_trans n2f.size (Nat.le_succ _)
  have loop : codeAny (model prog w) A (.compLoop (.ListComp elt [⟨target, iter, ifs, 0⟩] scope pos) 0 (.ref it) (.ref acc) (compEnvC scope cl C env))
      (compPost (model prog w) A E none (fun v s' => ∃ av hp', Rel B (hp'.set env.locals (.ns m)) s' ∧ ImmLe s.heap s'.heap ∧ VR s'.heap av v ∧ Q av hp') (.ref acc) C) { s₁ with heap := h₁, toks := s₁.toks + 0 } := by
    refine Comp_core (n := (b - a).toNat) (env := compEnvC scope cl C env) (el := fun i => .int (a + i)) (st := fun i ob => ob = { cls := .type "range_iterator", dict := none, data := .fields #[rawInt (a + i), rawInt ((b - a).toNat - i), rawInt 1], slots := #[] }) (I := I) (s₀ := s) (Ne.symm hCi) (Ne.symm hCa) hlen (fun i ob x i' => by obtain ⟨_, _, _, e⟩ := i'; rw [x] at e; cases e)
      (fun i ys m₂ hp₂ s' ob hi hI hob hst r' E' W k => ?_) (fun ys m₂ hp₂ s' ob hI hob hst r' E' W k => ?_) iset iacc (fun i ys m₂ hp₂ ob hi hI hob hac => iturn i ys m₂ hp₂ ob hi hI hob hac)
      (fun ys m' hp' s' hI hac r' le' => ?_) (i0 _) (by rw [Hp.set_ne _ _ (Ne.symm hacit), Hp.set_same]) (Hp.set_same ..) (by rw [hsz]; simp) rel (le2.trans (ImmLe.keep k₀)) (fun _ _ x => ⟨"range_iterator", congrArg Obj.cls x, rfl⟩)
    · subst hst
      have hg : s'.heap.get? it = some _ := (r'.at hob (Ne.symm hCi)).1
      refine wpAny_pyNext_range_item (x := a + i) (left := (b - a).toNat - i) (step := 1) hg (by omega) fun h' hit' hs' => ?_
      exact k _ h' _ _ VR_int hit' (by
        have e1 : a + (i : Int) + 1 = a + ((i + 1 : Nat) : Int) := by push_cast; omega
        have e2 : (((b - a).toNat : Int) - i - 1) = ((b - a).toNat - ((i + 1 : Nat) : Int)) := by push_cast; omega
        rw [e1, e2]) hs'
    · subst hst
      have hg : s'.heap.get? it = some _ := (r'.at hob (Ne.symm hCi)).1
      exact wpAny_pyNext_range_end hh (x := a + (b - a).toNat) (left := (b - a).toNat - (b - a).toNat) (step := 1) hg (by omega) fun h' he => k h' s'.toks he
    · obtain ⟨hp₃, hle3, hc3, q⟩ := ifin ys m' hp' hI hac
      obtain ⟨mv, hn, _⟩ := (r'.objs _ _ (Hp.set_same ..)).2
      refine ⟨mv, hn, fun h' hs' => ?_⟩
      have f := r'.forget (Hp.set_same ..) hs' s'.toks
      refine ⟨.ref acc, hp₃, f.1.sub fun z o hz => ?_, le'.trans f.2, VR_ref, q⟩
      have hzC : z ≠ C := fun e => by rw [e, Hp.set_ne _ _ hCe, hc3] at hz; cases hz
      show ((hp'.del it).set C (.ns m')).del C z = some o
      rw [Hp.del_ne _ hzC, Hp.set_ne _ _ hzC]
      exact hle3 _ _ hz
  have hiter : h₁.get? it = some { cls := .type "range_iterator", data := .fields #[rawInt a, rawInt (Builtin.Range.rangeSize a b 1), rawInt 1] } := (rel.objs it (.obj { cls := .type "range_iterator", data := .fields #[rawInt a, rawInt (Builtin.Range.rangeSize a b 1), rawInt 1] }) (by rw [Hp.set_ne _ _ (Ne.symm hCi), Hp.set_ne _ _ (Ne.symm hacit), Hp.set_same])).2.1
  exact codeAny_compStart_list loop (wpAny_pyIter_rangeiter (s := { s₁ with heap := h₁, toks := s₁.toks + 0 }) (x := a) (left := Builtin.Range.rangeSize a b 1) (step := 1) hiter loop)
theorem EV_CompRP {elt iter : Expr} {x : PySem.Str} {tpos} {ifs : List Expr} {scope : Scope} {pos : Pos} {cl : List (PySem.Str × Addr)} {p : Nat → Bool} {e : Nat → AV} {Q : AV → Hp → Prop} (hh : A.handled = none) (hclos : closureFor scope env = pure cl) (hcell : ∀ y ∈ scope.names, y.2 ≠ .cell) (hnames : ∀ x ∈ scope.names, x.2 = .local → scope.names.lookup x.1 = some .local)
    (hx : ∀ C, (compEnvC scope cl C env).kindOf x = some .local)
    (h : EV (model prog w) A E B env iter m hp fun o hp₁ => ∃ rg ob a b, o = .ref rg ∧ hp₁ rg = some (.obj ob) ∧ rg ≠ env.locals ∧ RangeOb ob a b ∧ -(2 ^ 62) ≤ a ∧ a < 2 ^ 62 ∧ -(2 ^ 62) ≤ b ∧ b < 2 ^ 62 ∧ (b - a).toNat ≤ 1000 ∧
      (∀ C m₂ hp₂ (i : Nat), i < (b - a).toNat → hp₁ C = none → C ≠ env.locals → Hp.Le (hp₁.set env.locals (.ns m)) hp₂ → m₂ x = some (.int (a + i)) →
        TSTs (model prog w) A (fun _ _ => False) B (compEnvC scope cl C env) ifs m₂ hp₂ fun t hp₄ => t = p i ∧ Hp.Le hp₂ hp₄ ∧ (t = true → EV (model prog w) A (fun _ _ => False) B (compEnvC scope cl C env) elt m₂ hp₄ fun v hp₅ => v = e i ∧ Hp.Le hp₄ hp₅)) ∧
      ∀ acc, hp₁ acc = none → acc ≠ env.locals → Q (.ref acc) (hp₁.set acc (.list (((List.range (b - a).toNat).filter p).map e))))
    (hs : ∀ x, foldedSetIterable iter env x = pure x := by intro _; rfl) (hkind : scope.kind = .function := by rfl) :
    EV (model prog w) A E B env (.ListComp elt [⟨.Name x tpos, iter, ifs, 0⟩] scope pos) m hp Q := by
  refine EV_CompR hh hclos hcell hnames (h.mono fun o hp₁ y => ?_) hs hkind
  obtain ⟨rg, ob, a, b, rfl, hrg, hrL, hro, ha, ha', hb, hb', hlen, hturn, hfin⟩ := y
  refine ⟨rg, ob, a, b, rfl, hrg, hrL, hro, ha, ha', hb, hb', hlen, fun it acc C h1 h2 h3 h4 h5 h6 h7 h8 h9 => ?_⟩
  have b1 : (hp₁.set env.locals (.ns m)) it = none := by rw [Hp.set_ne _ _ h2]; exact h1
  have b2 : (hp₁.set env.locals (.ns m)) acc = none := by rw [Hp.set_ne _ _ h4]; exact h3
  refine ⟨fun i ys _ hp₂ => Hp.Le (hp₁.set env.locals (.ns m)) hp₂ ∧ ys = ((List.range i).filter p).map e, fun ob => ⟨((Hp.Le.refl _).set b1 _).set b2 _, rfl⟩, fun i ys m₂ hp₂ ob y => ⟨y.1.set b1 _, y.2⟩, fun i ys m₂ hp₂ zs y => ⟨y.1.set b2 _, y.2⟩, fun i ys m₂ hp₂ ob hi y hit hac => ?_, fun ys m₂ hp₂ y hac => ?_⟩
  · refine ASG_Name (fun s r => ?_) (hx C) (by show (scope.kind == .class || (scope.kind == .module && _)) = false; rw [hkind]; rfl)
    refine wpAny_mono (hturn C _ hp₂ i hi h6 h7 y.1 (by simp [upd]) s r) (fun t s' ⟨hp₄, r₄, le₄, q1, q2, q3⟩ => ⟨hp₄, r₄, le₄, ?_⟩) fun _ _ z => z
    have hr : ((List.range (i + 1)).filter p).map e = ys ++ (if p i then [e i] else []) := by rw [List.range_succ, List.filter_append, List.map_append, y.2]; congr 1; by_cases hp' : p i <;> simp [hp']
    cases t with
    | false =>
      show _ ∧ _
      exact ⟨⟨y.1.trans q2, by rw [hr, ← q1]; simp⟩, q2 _ _ hit, q2 _ _ hac⟩
    | true =>
      show EV _ _ _ _ _ _ _ _ _
      exact (q3 rfl).mono fun v hp₅ z => ⟨⟨(y.1.trans q2).trans z.2, by rw [hr, ← q1, z.1]; simp⟩, z.2 _ _ (q2 _ _ hit), z.2 _ _ (q2 _ _ hac)⟩
  · refine ⟨hp₁.set acc (.list ys), fun z o hz => ?_, by rw [Hp.set_ne _ _ h9]; exact h6, by rw [y.2]; exact hfin acc h3 h4⟩
    have hzi : z ≠ it := fun e => by
      rw [e, Hp.set_ne _ _ h2, Hp.set_ne _ _ (Ne.symm h5)] at hz
      rw [h1] at hz; cases hz
    rw [Hp.del_ne _ hzi]
    by_cases hza : z = acc
    · rw [hza, Hp.set_ne _ _ h4, Hp.set_same] at hz
      rw [hza, hac]; exact hz
    · refine y.1 z o ?_
      by_cases hze : z = env.locals
      · rw [hze, Hp.set_same] at hz ⊢; exact hz
      · rw [Hp.set_ne _ _ hze, Hp.set_ne _ _ hza] at hz
        rw [Hp.set_ne _ _ hze]; exact hz
theorem EV_CompLP {elt iter : Expr} {x : PySem.Str} {tpos} {scope : Scope} {pos : Pos} {cl : List (PySem.Str × Addr)} {e : AV → AV} {Q : AV → Hp → Prop} (hh : A.handled = none) (hclos : closureFor scope env = pure cl) (hcell : ∀ y ∈ scope.names, y.2 ≠ .cell) (hnames : ∀ x ∈ scope.names, x.2 = .local → scope.names.lookup x.1 = some .local)
    (hx : ∀ C, (compEnvC scope cl C env).kindOf x = some .local)
    (h : EV (model prog w) A E B env iter m hp fun o hp₁ => ∃ a xs, o = .ref a ∧ Lst B hp₁ env.locals a xs ∧ xs.length ≤ 1000 ∧
      (∀ C m₂ hp₂ v, v ∈ xs → hp₁ C = none → C ≠ env.locals → Hp.Le (hp₁.set env.locals (.ns m)) hp₂ → m₂ x = some v →
        EV (model prog w) A (fun _ _ => False) B (compEnvC scope cl C env) elt m₂ hp₂ fun v' hp₅ => v' = e v ∧ Hp.Le hp₂ hp₅) ∧
      ∀ acc, hp₁ acc = none → acc ≠ env.locals → Q (.ref acc) (hp₁.set acc (.list (xs.map e))))
    (hs : ∀ x, foldedSetIterable iter env x = pure x := by intro _; rfl) (hkind : scope.kind = .function := by rfl) :
    EV (model prog w) A E B env (.ListComp elt [⟨.Name x tpos, iter, [], 0⟩] scope pos) m hp Q := by
  refine EV_CompL hh hclos hcell hnames (h.mono fun o hp₁ y => ?_) hs hkind
  obtain ⟨a, xs, rfl, hl, hlen, hturn, hfin⟩ := y
  refine ⟨a, xs, rfl, hl, hlen, fun it acc C h1 h2 h3 h4 h5 h6 h7 h8 h9 => ?_⟩
  have b1 : (hp₁.set env.locals (.ns m)) it = none := by rw [Hp.set_ne _ _ h2]; exact h1
  have b2 : (hp₁.set env.locals (.ns m)) acc = none := by rw [Hp.set_ne _ _ h4]; exact h3
  have hl' : Lst B (hp₁.set env.locals (.ns m)) C a xs := hl.call h6
  refine ⟨fun i ys _ hp₂ => Hp.Le (hp₁.set env.locals (.ns m)) hp₂ ∧ ys = (xs.take i).map e, fun ob => ⟨((Hp.Le.refl _).set b1 _).set b2 _, rfl⟩, fun i ys m₂ hp₂ ob y => ⟨y.1.set b1 _, y.2⟩, fun i ys m₂ hp₂ zs y => ⟨y.1.set b2 _, y.2⟩, fun i ys m₂ hp₂ y => hl'.le y.1, fun i v ys m₂ hp₂ ob hi y hit hac => ?_, fun ys m₂ hp₂ y hac => ?_⟩
  · refine ASG_Name (TSTs_nil ?_) (hx C) (by show (scope.kind == .class || (scope.kind == .module && _)) = false; rw [hkind]; rfl)
    rw [if_pos rfl]
    refine (hturn C _ hp₂ v (List.mem_of_getElem? hi) h6 h7 y.1 (by simp [upd])).mono fun v' hp₅ z => ⟨⟨y.1.trans z.2, ?_⟩, z.2 _ _ hit, z.2 _ _ hac⟩
    rw [y.2, z.1, List.take_add_one, hi]; simp
  · refine ⟨hp₁.set acc (.list ys), fun z o hz => ?_, by rw [Hp.set_ne _ _ h9]; exact h6, by rw [y.2, List.take_of_length_le (Nat.le_refl _)]; exact hfin acc h3 h4⟩
    have hzi : z ≠ it := fun e => by
      rw [e, Hp.set_ne _ _ h2, Hp.set_ne _ _ (Ne.symm h5)] at hz
      rw [h1] at hz; cases hz
    rw [Hp.del_ne _ hzi]
    by_cases hza : z = acc
    · rw [hza, Hp.set_ne _ _ h4, Hp.set_same] at hz
      rw [hza, hac]; exact hz
    · refine y.1 z o ?_
      by_cases hze : z = env.locals
      · rw [hze, Hp.set_same] at hz ⊢; exact hz
      · rw [Hp.set_ne _ _ hze, Hp.set_ne _ _ hza] at hz
        rw [Hp.set_ne _ _ hze]; exact hz
end
end Mine

open PySem PySem.W PyProof.Rows PySem.Calls
set_option maxRecDepth 100000
namespace Mine
theorem eqvAll_ints : ∀ xs ys : List Int, PyData.eqvAll (xs.map .int) (ys.map .int) = decide (xs = ys)
  | [], [] => by simp [PyData.eqvAll]
  | [], y :: ys => by simp [PyData.eqvAll]
  | x :: xs, [] => by simp [PyData.eqvAll]
  | x :: xs, y :: ys => by
    simp only [List.map_cons, PyData.eqvAll, eqvAll_ints xs ys, PyData.eqv, List.cons.injEq]
    by_cases h1 : x = y <;> by_cases h2 : xs = ys <;> simp [h1, h2]
theorem eqv_ints (xs ys : List Int) : (PyData.list (xs.map .int)).eqv (.list (ys.map .int)) = decide (xs = ys) := by simp only [PyData.eqv]; exact eqvAll_ints xs ys
theorem RDs_ints {B : Shared} {hp : Hp} {L : Addr} : ∀ xs : List Int, RDs B hp L (xs.map .int) (xs.map .int)
  | [] => .nil
  | x :: xs => .cons (.int x) (RDs_ints xs)
theorem pick_map {α β : Type} (f : α → β) (xs : List α) (lo hi : Option Int) : pick (xs.map f) lo hi = (pick xs lo hi).map f := by
  unfold pick; rw [List.length_map, List.map_take, List.map_drop]
theorem shaped_ints (xs : List Int) : SeqAt.shaped (.list (xs.map .int)) = true := by
  have h1 : ∀ xs : List Int, PyData.canLayAll0 (xs.map .int) = true := by
    intro xs; induction xs with
    | nil => rfl
    | cons x xs ih => simp only [List.map_cons, PyData.canLayAll0, ih, Bool.and_true]; rfl
  have h2 : ∀ xs : List Int, PyData.depthAll (xs.map .int) ≤ 2 := by
    intro xs; induction xs with
    | nil => simp [PyData.depthAll]
    | cons x xs ih => simp only [List.map_cons, PyData.depthAll, PyData.depth]; omega
  unfold SeqAt.shaped
  rw [Bool.and_eq_true, decide_eq_true_iff]
  refine ⟨?_, ?_⟩
  · simp only [PyData.canLay0]; exact h1 xs
  · have := h2 xs; simp only [PyData.depth]; omega
def plP (its : List Int) (low high : Int) (into : Bool) (i : Nat) : Bool := (into || decide ((i : Int) + (high - low) ≤ low)) && decide (pick its (some (i : Int)) (some (i + (high - low))) = pick its (some low) (some high))
def plF (its : List Int) (low high : Int) (into : Bool) : List Int := ((List.range low.toNat).filter (plP its low high into)).map fun (i : Nat) => (i : Int)
def plRet : Expr := match (dBody (topS PW 7)).getD 1 (.Pass ⟨0, 0, 0, 0⟩) with | .Return (some e) _ => e | _ => .Constant .none 0 ⟨0, 0, 0, 0⟩
def plScope : Scope := match plRet with | .ListComp _ _ s _ => s | _ => default
def plElt : Expr := match plRet with | .ListComp e _ _ _ => e | _ => plRet
def plAnd : List Expr := match plRet with | .ListComp _ [⟨_, _, [.BoolOp _ es _], _⟩] _ _ => es | _ => []
def plCmp : Expr := plAnd.getD 1 plRet
section
variable {w : World} {A : Around} {E : Value → Shared → Prop} {B : Shared} {env : Env} {m : Loc} {hp : Hp}
theorem CL_places {aI : Addr} {its : List Int} {low high : Int} {into : Bool} {Q : AV → Hp → Prop} (G : Gnd (KW w) B) (hh : A.handled = none) (hu : A.units + 70 < cLine) (hroom : A.depth + 2 < recursionLimit) (hl : Lst B hp env.locals aI (its.map .int)) (hlen : its.length ≤ 900) (h0 : 0 ≤ low) (h1 : low ≤ 900) (h2 : low ≤ high) (h3 : high ≤ 900)
    (h : ∀ acc, hp acc = none → acc ≠ env.locals → Q (.ref acc) (hp.set acc (.list ((plF its low high into).map .int)))) :
    CL (model PW w) A E B env (.ref 251) m [.ref aI, .int low, .int high, .bool into] hp Q := by
  refine CD.cl (CD_cells (bs := [(S "items", .ref aI), (S "low", .int low), (S "high", .int high), (S "into", .bool into)]) (body := dBody (topS PW 7)) G (kPlaces w) (by kernel_rfl) rfl (by omega) rfl (fun s vs hv => ?_) (fun L x hx => ?_) (fun L hL hLe hcs => ?_) (fun L n c hm => ?_))
  · obtain ⟨v, u, z, y, rfl, h1, h2, h3, h4⟩ := VRs_four hv
    exact ⟨[(S "items", v), (S "low", u), (S "high", z), (S "into", y)], rfl, rfl, by simp only [List.map_cons, List.map_nil, VRs]; exact ⟨_, _, rfl, h1, _, _, rfl, h2, _, _, rfl, h3, _, _, rfl, h4, rfl⟩⟩
  · simp only [List.mem_cons, List.not_mem_nil, or_false] at hx
    rcases hx with rfl | rfl | rfl | rfl <;> exact .inr ⟨rfl, rfl⟩
  · have hcl : cellsFrom (L + 1) fdPlaces.scope.names [] = [(S "size", L + 5), (S "into", L + 4), (S "high", L + 3), (S "low", L + 2), (S "items", L + 1)] := rfl
    rw [hcl] at hcs ⊢
    have f1 := hcs (S "items") (L + 1) (by simp)
    have f2 := hcs (S "low") (L + 2) (by simp)
    have f3 := hcs (S "high") (L + 3) (by simp)
    have f4 := hcs (S "into") (L + 4) (by simp)
    have f5 := hcs (S "size") (L + 5) (by simp)
    generalize hhp1 : putCells (hp.set env.locals (.ns m)) _ _ = hp1
    have c1 : hp1 (L + 1) = some (.cell (some (.ref aI))) := by rw [← hhp1]; simp [putCells, List.find?]; rfl
    have c2 : hp1 (L + 2) = some (.cell (some (.int low))) := by rw [← hhp1]; simp [putCells, List.find?]; rfl
    have c3 : hp1 (L + 3) = some (.cell (some (.int high))) := by rw [← hhp1]; simp [putCells, List.find?]; rfl
    have c4 : hp1 (L + 4) = some (.cell (some (.bool into))) := by rw [← hhp1]; simp [putCells, List.find?]; rfl
    have c5 : hp1 (L + 5) = some (.cell none) := by rw [← hhp1]; simp [putCells, List.find?]; rfl
    have hle : Hp.Le (hp.set env.locals (.ns m)) hp1 := fun z o e => by
      have k : ∀ c, hp c = none → c ≠ env.locals → c ≠ z := fun c a b e' => by subst e'; rw [Hp.set_ne _ _ b, a] at e; cases e
      rw [← hhp1]
      simp only [putCells, List.find?, decide_eq_false (k _ f5.1 f5.2.1), decide_eq_false (k _ f4.1 f4.2.1), decide_eq_false (k _ f3.1 f3.2.1), decide_eq_false (k _ f2.1 f2.2.1), decide_eq_false (k _ f1.1 f1.2.1)]
      exact e
    clear hhp1
    have hl1 : Lst B hp1 L aI (its.map .int) := (hl.call hL).le hle
    conv => arg 6; whnf
    refine EXs_cons (EX_AssignC (c := L + 5) rfl f5.2.2 (EV_BinOp (EV_cell (c := L + 3) rfl c3 f3.2.2 (EV_cell (c := L + 2) rfl c2 f2.2.2 (OP_sub ⟨_, c5, ?_⟩)))))
    have kp : ∀ z, z ≠ L + 5 → (hp1.set (L + 5) (.cell (some (.int (high - low))))) z = hp1 z := fun z hz => Hp.set_ne _ _ hz
    have d1 : (hp1.set (L + 5) (.cell (some (.int (high - low))))) (L + 1) = some (.cell (some (.ref aI))) := by rw [kp _ (by simp)]; exact c1
    have d2 : (hp1.set (L + 5) (.cell (some (.int (high - low))))) (L + 2) = some (.cell (some (.int low))) := by rw [kp _ (by simp)]; exact c2
    have d3 : (hp1.set (L + 5) (.cell (some (.int (high - low))))) (L + 3) = some (.cell (some (.int high))) := by rw [kp _ (by simp)]; exact c3
    have d4 : (hp1.set (L + 5) (.cell (some (.int (high - low))))) (L + 4) = some (.cell (some (.bool into))) := by rw [kp _ (by simp)]; exact c4
    have d5 : (hp1.set (L + 5) (.cell (some (.int (high - low))))) (L + 5) = some (.cell (some (.int (high - low)))) := Hp.set_same ..
    have hle5 : Hp.Le (hp.set env.locals (.ns m)) (hp1.set (L + 5) (.cell (some (.int (high - low))))) := hle.set (by rw [Hp.set_ne _ _ f5.2.1]; exact f5.1) _
    have hl2 : Lst B (hp1.set (L + 5) (.cell (some (.int (high - low))))) L aI (its.map .int) := (hl.call hL).le hle5
    generalize hp1.set (L + 5) (.cell (some (.int (high - low)))) = hp2 at *
    have hu' : (A.deeper (callEnvC fdPlaces L 251)).units + 64 < cLine := by show A.units + 3 + 64 < cLine; omega
    refine EXs_cons (EX_Return ?_)
    refine EV_CompRP (p := plP its low high into) (e := fun i => .int (i : Int)) (cl := [(S "size", L + 5), (S "low", L + 2), (S "items", L + 1), (S "into", L + 4), (S "high", L + 3)]) hh rfl (by decide) (by decide) (fun _ => rfl) ?_
    refine EV_CallT (EV_blt G (no_range w) blt_range (by decide) (fun _ => VR_ty) ⟨rfl, EVS_cons (EV_cell (c := L + 2) rfl d2 f2.2.2 (EVS_nil (CL_range1 fun r ob hr hrL ro => ?_)))⟩)
    refine ⟨r, ob, 0, low, rfl, Hp.set_same .., hrL, ro, by decide, by decide, by omega, by omega, by omega, fun C m₂ hp₃ i hi hC hCL hle3 hm₂ => ?_, fun acc hacc haccL => ?_⟩
    · have fromL : ∀ z o, z ≠ L → hp2 z = some o → hp₃ z = some o := fun z o hz e => hle3 z o (by rw [show (callEnvC fdPlaces L 251).locals = L from rfl, Hp.set_ne _ _ hz, Hp.set_ne _ _ (Hp.ne_of e hr)]; exact e)
      have neC : ∀ z o, hp2 z = some o → z ≠ C := fun z o e => Hp.ne_of (show (hp2.set r (.obj ob)) z = some o by rw [Hp.set_ne _ _ (Hp.ne_of e hr)]; exact e) hC
      have e1 := fromL _ _ f1.2.2 d1
      have e2 := fromL _ _ f2.2.2 d2
      have e3 := fromL _ _ f3.2.2 d3
      have e4 := fromL _ _ f4.2.2 d4
      have e5 := fromL _ _ f5.2.2 d5
      have n1 := neC _ _ d1
      have n2 := neC _ _ d2
      have n3 := neC _ _ d3
      have n4 := neC _ _ d4
      have n5 := neC _ _ d5
      have hl3 : Lst B hp₃ C aI (its.map .int) := ((hl2.le ((Hp.Le.refl hp2).set hr (.obj ob))).call hC).le hle3
      have hj : m₂ (S "j") = some (.int (i : Int)) := by rw [hm₂]; simp
      have hlen' : (its.map AV.int).length ≤ sizeLine := by rw [List.length_map]; exact sz' (by omega)
      have cmp : TST (model PW w) (A.deeper (callEnvC fdPlaces L 251)) (fun _ _ => False) B (compEnvC plScope [(S "size", L + 5), (S "low", L + 2), (S "items", L + 1), (S "into", L + 4), (S "high", L + 3)] C (callEnvC fdPlaces L 251)) plCmp m₂ hp₃ (fun t hp₄ => t = decide (pick its (some (i : Int)) (some (i + (high - low))) = pick its (some low) (some high)) ∧ Hp.Le hp₃ hp₄) := by
        conv => arg 6; whnf
        refine TST_Compare1 (EV_Slice (EV_cell (c := L + 1) rfl e1 n1 (EV_local hj (EV_BinOp (EV_local hj (EV_cell (c := L + 5) rfl e5 n5 (OP_add ⟨aI, _, _, _, rfl, hl3, hlen', rfl, rfl, fun b1 hb1 hb1L => ?_⟩)))))))
        have le1 : Hp.Le hp₃ (hp₃.set b1 (.list (pick (its.map AV.int) (some (i : Int)) (some ((i : Int) + (high - low)))))) := (Hp.Le.refl _).set hb1 _
        refine EV_Slice (EV_cell (c := L + 1) rfl (le1 _ _ e1) n1 (EV_cell (c := L + 2) rfl (le1 _ _ e2) n2 (EV_cell (c := L + 3) rfl (le1 _ _ e3) n3 ⟨aI, _, _, _, rfl, hl3.le le1, hlen', rfl, rfl, fun b2 hb2 hb2L => ?_⟩)))
        have hb12 : b1 ≠ b2 := Hp.ne_of (Hp.set_same ..) hb2
        rw [pick_map, pick_map]
        refine OP_eqD (.list (.own (show _ = some (AO.list ((pick its (some (i : Int)) (some ((i : Int) + (high - low)))).map AV.int)) by rw [Hp.set_ne _ _ hb12]; exact Hp.set_same ..) hb1L) (RDs_ints _)) (.list (.own (Hp.set_same ..) hb2L) (RDs_ints _)) (shaped_ints _) (shaped_ints _) hu' (TRU_bool ?_)
        rw [eqv_ints]
        exact ⟨rfl, by rw [← pick_map, ← pick_map]; exact le1.set (le1.none hb2) _⟩
      have elt : ∀ hp₄, EV (model PW w) (A.deeper (callEnvC fdPlaces L 251)) (fun _ _ => False) B (compEnvC plScope [(S "size", L + 5), (S "low", L + 2), (S "items", L + 1), (S "into", L + 4), (S "high", L + 3)] C (callEnvC fdPlaces L 251)) plElt m₂ hp₄ (fun v hp₅ => v = .int (i : Int) ∧ Hp.Le hp₄ hp₅) := fun hp₄ => EV_local hj ⟨rfl, .refl _⟩
      have fin : (into || decide ((i : Int) + (high - low) ≤ low)) = true → ALLT (model PW w) (A.deeper (callEnvC fdPlaces L 251)) (fun _ _ => False) B (compEnvC plScope [(S "size", L + 5), (S "low", L + 2), (S "items", L + 1), (S "into", L + 4), (S "high", L + 3)] C (callEnvC fdPlaces L 251)) .And [plCmp] m₂ hp₃ (fun t hp₄ => t = plP its low high into i ∧ Hp.Le hp₃ hp₄ ∧ (t = true → EV (model PW w) (A.deeper (callEnvC fdPlaces L 251)) (fun _ _ => False) B (compEnvC plScope [(S "size", L + 5), (S "low", L + 2), (S "items", L + 1), (S "into", L + 4), (S "high", L + 3)] C (callEnvC fdPlaces L 251)) plElt m₂ hp₄ fun v hp₅ => v = .int (i : Int) ∧ Hp.Le hp₄ hp₅)) := fun hb => by
        refine ALLT_And_cons (TST.mono cmp fun t hp₄ x => ?_)
        have hp : plP its low high into i = t := by unfold plP; rw [hb, x.1]; rfl
        cases t with
        | true => rw [if_pos rfl]; exact ALLT_And_nil ⟨hp.symm, x.2, fun _ => elt _⟩
        | false => rw [if_neg Bool.false_ne_true]; exact ⟨hp.symm, x.2, fun e => by cases e⟩
      refine TSTs_one (TST_BoolOp (ALLT_And_cons (TST_BoolOp (ALLT_Or_cons (TST_value (EV_cell (c := L + 4) rfl e4 n4 (TRU_bool ?_)))))))
      cases into with
      | true => rw [if_pos rfl, if_pos rfl]; exact fin rfl
      | false =>
        rw [if_neg Bool.false_ne_true]
        refine ALLT_Or_cons (TST_Compare1 (EV_BinOp (EV_local hj (EV_cell (c := L + 5) rfl e5 n5 (OP_add (EV_cell (c := L + 2) rfl e2 n2 (OP_le (TRU_bool ?_))))))))
        by_cases hc : (i : Int) + (high - low) ≤ low
        · rw [decide_eq_true hc, if_pos rfl, if_pos rfl]; exact fin (by rw [decide_eq_true hc]; rfl)
        · rw [decide_eq_false hc, if_neg Bool.false_ne_true]
          refine ALLT_Or_nil ?_
          rw [if_neg Bool.false_ne_true]
          exact ⟨by unfold plP; rw [decide_eq_false hc]; rfl, .refl _, fun e => by cases e⟩
    · have hle6 : Hp.Le hp2 (hp2.set r (.obj ob)) := (Hp.Le.refl _).set hr _
      have h5' := hle5.trans hle6
      have hacc0 : (hp.set env.locals (.ns m)) acc = none := h5'.none hacc
      have hne : acc ≠ env.locals := fun e => by rw [e, Hp.set_same] at hacc0; cases hacc0
      have hacc1 : hp acc = none := by rw [Hp.set_ne _ _ hne] at hacc0; exact hacc0
      refine ret_ok (hp₂ := hp.set acc (.list ((plF its low high into).map .int))) (fun z o hz => ?_) ?_ (h acc hacc1 hne)
      · have el : ((List.range (low - 0).toNat).filter (plP its low high into)).map (fun (i : Nat) => AV.int (i : Int)) = (plF its low high into).map .int := by unfold plF; rw [List.map_map, Int.sub_zero]; rfl
        rw [el]
        by_cases hza : z = acc
        · subst hza
          rw [Hp.set_ne _ _ hne, Hp.set_same] at hz
          rw [Hp.set_same]; exact hz
        · rw [Hp.set_ne _ _ hza]
          refine h5' z o ?_
          by_cases hze : z = env.locals
          · subst hze; rw [Hp.set_same] at hz ⊢; exact hz
          · rw [Hp.set_ne _ _ hze, Hp.set_ne _ _ hza] at hz
            rw [Hp.set_ne _ _ hze]; exact hz
      · have : L ≠ acc := fun e => haccL e.symm
        rw [Hp.set_ne _ _ this]; exact hL
  · rw [show cellsFrom (L + 1) fdPlaces.scope.names [] = [(S "size", L + 5), (S "into", L + 4), (S "high", L + 3), (S "low", L + 2), (S "items", L + 1)] from rfl] at hm ⊢
    simp only [List.mem_cons, Prod.mk.injEq, List.not_mem_nil, or_false] at hm
    rcases hm with ⟨rfl, rfl⟩ | ⟨rfl, rfl⟩ | ⟨rfl, rfl⟩ | ⟨rfl, rfl⟩ | ⟨rfl, rfl⟩ <;> rfl
end
end Mine

set_option maxRecDepth 100000
open PySem
namespace Mine
theorem pick_in {α : Type} (xs : List α) {i j : Nat} (h1 : i ≤ j) (h2 : j ≤ xs.length) : pick xs (some (i : Int)) (some (j : Int)) = (xs.drop i).take (j - i) := by
  have e : ∀ k : Nat, k ≤ xs.length → clipAt xs.length (k : Int) = k := fun k hk => by
    unfold clipAt
    split <;> omega
  unfold pick
  simp only [Option.elim_some]
  rw [e i (by omega), e j h2]
theorem slice_eq (xs : List Int) {i j k : Nat} (h1 : i + k ≤ xs.length) (h2 : j + k ≤ xs.length) : (xs.drop i).take k = (xs.drop j).take k ↔ ∀ t, t < k → xs.getD (i + t) 0 = xs.getD (j + t) 0 := by
  constructor
  · intro e t ht
    have := congrArg (fun l => l[t]?) e
    simp only [List.getElem?_take, ht, if_true, List.getElem?_drop] at this
    simp only [List.getD_eq_getElem?_getD, this]
  · intro e
    apply List.ext_getElem?
    intro t
    simp only [List.getElem?_take, List.getElem?_drop]
    by_cases ht : t < k
    · rw [if_pos ht, if_pos ht]
      have := e t ht
      simp only [List.getD_eq_getElem?_getD, List.getElem?_eq_getElem (show i + t < xs.length by omega), List.getElem?_eq_getElem (show j + t < xs.length by omega), Option.getD_some] at this ⊢
      rw [this]
    · rw [if_neg ht, if_neg ht]
def Occ (its : List Int) (low high : Nat) (into : Bool) (j : Nat) : Prop := j < low ∧ (into = true ∨ j + (high - low) ≤ low) ∧ ∀ t, t < high - low → its.getD (j + t) 0 = its.getD (low + t) 0
theorem mem_plF {its : List Int} {low high : Nat} {into : Bool} (h1 : low ≤ high) (h2 : high ≤ its.length) {x : Int} : x ∈ plF its low high into ↔ ∃ j, Occ its low high into j ∧ x = (j : Int) := by
  unfold plF
  rw [List.mem_map]
  have key : ∀ j, j ∈ (List.range ((low : Int)).toNat).filter (plP its low high into) ↔ Occ its low high into j := fun j => by
    rw [List.mem_filter, List.mem_range]
    unfold plP Occ
    rw [Bool.and_eq_true, Bool.or_eq_true, decide_eq_true_iff, decide_eq_true_iff]
    have e0 : (high : Int) - low = ((high - low : Nat) : Int) := by omega
    constructor
    · rintro ⟨a, b, c⟩
      have a' : j < low := by omega
      refine ⟨a', b.imp id (by omega), ?_⟩
      have e1 : (j : Int) + ((high : Int) - low) = ((j + (high - low) : Nat) : Int) := by omega
      rw [e1, pick_in _ (by omega) (by omega), pick_in _ h1 h2, show j + (high - low) - j = high - low by omega, slice_eq _ (by omega) (by omega)] at c
      exact c
    · rintro ⟨a, b, c⟩
      refine ⟨by omega, b.imp id (by omega), ?_⟩
      have e1 : (j : Int) + ((high : Int) - low) = ((j + (high - low) : Nat) : Int) := by omega
      rw [e1, pick_in _ (by omega) (by omega), pick_in _ h1 h2, show j + (high - low) - j = high - low by omega, slice_eq _ (by omega) (by omega)]
      exact c
  constructor
  · rintro ⟨j, hj, rfl⟩; exact ⟨j, (key j).mp hj, rfl⟩
  · rintro ⟨j, hj, rfl⟩; exact ⟨j, (key j).mpr hj, rfl⟩
theorem plF_asc (its : List Int) (low high : Int) (into : Bool) : (plF its low high into).Pairwise (· < ·) := by
  unfold plF
  rw [List.pairwise_map]
  exact (List.Pairwise.filter _ List.pairwise_lt_range).imp fun h => by omega
theorem head_min {l : List Int} (h : l.Pairwise (· < ·)) {x : Int} (hx : x ∈ l) (hm : ∀ y ∈ l, x ≤ y) : l.head? = some x := by
  cases l with
  | nil => cases hx
  | cons a l =>
    rw [List.pairwise_cons] at h
    rcases List.mem_cons.mp hx with rfl | hx
    · rfl
    · have := h.1 x hx; have := hm a (.head _); omega
theorem flm_step {its : List Int} {p most : Nat} {into : Bool} {b : Best} (hp : p + most < its.length) (h : Longest (MJ its (idxN its)) p (p + most + 1) 0 (if into then p + most else p) b) :
    (b.2.2 ≤ most → plF its p (p + most + 1 : Nat) into = []) ∧ (¬ b.2.2 ≤ most → b.1 = p ∧ b.2.2 = most + 1 ∧ (plF its p (p + most + 1 : Nat) into).head? = some b.2.1) := by
  have toC : ∀ j, Occ its p (p + most + 1) into j → Common (MJ its (idxN its)) p (p + most + 1) 0 (if into then p + most else p) p j (most + 1) := fun j ⟨a, c, d⟩ => by
    refine ⟨Int.le_refl _, by omega, by omega, ?_, by omega, fun t h0 h1 => ?_⟩
    · cases into with
      | true => rw [if_pos rfl]; omega
      | false =>
        rw [if_neg Bool.false_ne_true]
        rcases c with c | c
        · cases c
        · omega
    · rw [MJ_idxN]
      have e1 : ((j : Int) + t).toNat = j + t.toNat := by omega
      have e2 : ((p : Int) + t).toNat = p + t.toNat := by omega
      refine ⟨by omega, by omega, ?_⟩
      rw [e1, e2]; exact d t.toNat (by omega)
  have memP : ∀ x, x ∈ plF its p (p + most + 1 : Nat) into ↔ ∃ j, Occ its p (p + most + 1) into j ∧ x = (j : Int) := fun x => mem_plF (by omega) (by omega)
  refine ⟨fun hle => ?_, fun hgt => ?_⟩
  · rw [List.eq_nil_iff_forall_not_mem]
    intro x hx
    obtain ⟨j, ho, rfl⟩ := (memP x).mp hx
    have := (h.max _ _ _ (toC j ho)).1
    omega
  · have c := h.com (by omega)
    have := c.a0; have := c.a1; have := c.b0; have := c.b1
    have e1 : b.1 = p := by omega
    have e2 : b.2.2 = most + 1 := by omega
    refine ⟨e1, e2, head_min (plF_asc ..) ((memP _).mpr ⟨b.2.1.toNat, ⟨?_, ?_, fun t ht => ?_⟩, by omega⟩) fun y hy => ?_⟩
    · cases into with
      | true => rw [if_pos rfl] at *; omega
      | false => rw [if_neg Bool.false_ne_true] at *; omega
    · cases into with
      | true => exact .inl rfl
      | false => rw [if_neg Bool.false_ne_true] at *; right; omega
    · have := c.eq (t : Int) (by omega) (by omega)
      rw [MJ_idxN] at this
      have e3 : (b.2.1 + (t : Int)).toNat = b.2.1.toNat + t := by omega
      have e4 : (b.1 + (t : Int)).toNat = p + t := by omega
      rw [← e3, ← e4]; exact this.2.2
    · obtain ⟨j, ho, rfl⟩ := (memP y).mp hy
      rcases (h.max _ _ _ (toC j ho)).2 e2.symm (by omega) with x | ⟨_, x⟩
      · omega
      · exact x
end Mine

set_option maxRecDepth 100000
open PySem
namespace Mine
theorem Occ.suffix {its : List Int} {low high low' j : Nat} {into : Bool} (h : Occ its low high into j) (h1 : low ≤ low') (h2 : low' ≤ high) : Occ its low' high into (j + (low' - low)) := by
  obtain ⟨a, b, c⟩ := h
  refine ⟨by omega, b.imp id (by omega), fun t ht => ?_⟩
  have := c (low' - low + t) (by omega)
  rw [show j + (low' - low) + t = j + (low' - low + t) by omega, this, show low + (low' - low + t) = low' + t by omega]
theorem Occ.prefix {its : List Int} {low high high' j : Nat} {into : Bool} (h : Occ its low high into j) (h1 : low ≤ high') (h2 : high' ≤ high) : Occ its low high' into j := by
  obtain ⟨a, b, c⟩ := h
  exact ⟨a, b.imp id (by omega), fun t ht => c t (by omega)⟩
theorem plF_ne {its : List Int} {low high : Nat} {into : Bool} (h1 : low ≤ high) (h2 : high ≤ its.length) : plF its low high into ≠ [] ↔ ∃ j, Occ its low high into j := by
  constructor
  · intro h
    obtain ⟨x, hx⟩ := List.exists_mem_of_ne_nil _ h
    obtain ⟨j, hj, _⟩ := (mem_plF h1 h2).mp hx
    exact ⟨j, hj⟩
  · rintro ⟨j, hj⟩ e
    have := (mem_plF (x := (j : Int)) h1 h2).mpr ⟨j, hj, rfl⟩
    rw [e] at this; cases this
def alw (its : List Int) (into : Bool) (k q : Nat) : Prop := k + 1 = q ∨ plF its k q into ≠ []
theorem alw.suffix {its : List Int} {into : Bool} {k k' q : Nat} (h : alw its into k q) (h1 : k ≤ k') (h2 : k' < q) (h3 : q ≤ its.length) : alw its into k' q := by
  rcases h with h | h
  · left; omega
  · right
    obtain ⟨j, hj⟩ := (plF_ne (by omega) h3).mp h
    exact (plF_ne (by omega) h3).mpr ⟨_, hj.suffix h1 (by omega)⟩
structure FW (its : List Int) (into : Bool) (f : Nat → Int) : Prop where
  zero : f 0 = 0
  some : ∀ q, 1 ≤ q → q ≤ its.length → ∃ k, k < q ∧ alw its into k q ∧ f q = 1 + f k
  least : ∀ q, 1 ≤ q → q ≤ its.length → ∀ k, k < q → alw its into k q → f q ≤ 1 + f k
theorem FW.nonneg {its : List Int} {into : Bool} {f : Nat → Int} (h : FW its into f) : ∀ n q, q ≤ n → q ≤ its.length → 0 ≤ f q := by
  intro n
  induction n with
  | zero => intro q hq _; have : q = 0 := by omega
            subst this; rw [h.zero]; exact Int.le_refl _
  | succ n ih =>
    intro q hq hl
    by_cases h0 : q = 0
    · subst h0; rw [h.zero]; exact Int.le_refl _
    · obtain ⟨k, hk, _, e⟩ := h.some q (by omega) hl
      have := ih k (by omega) (by omega)
      omega
def newB (its : List Int) (k : Nat) : Bool := !(its.take k).contains (its.getD k 0)
def news (its : List Int) (p : Nat) : List Nat := (List.range p).filter (newB its)
structure GI (its : List Int) (into : Bool) (p : Nat) (parts : Int) (single : List Nat) : Prop where
  le : p ≤ its.length
  fw : ∀ f, FW its into f → f p = parts ∧ ∀ q, p < q → q ≤ its.length → parts + 1 ≤ f q
  sg : single = news its p
theorem GI.zero (its : List Int) (into : Bool) : GI its into 0 0 [] := by
  refine ⟨Nat.zero_le _, fun f h => ⟨h.zero, fun q h1 h2 => ?_⟩, rfl⟩
  obtain ⟨k, hk, _, e⟩ := h.some q (by omega) h2
  have := h.nonneg k k (Nat.le_refl _) (by omega)
  omega
theorem newB_false {its : List Int} {k i : Nat} (h1 : i < k) (h2 : k ≤ its.length) (e : its.getD i 0 = its.getD k 0) : newB its k = false := by
  unfold newB
  rw [Bool.not_eq_false', List.contains_iff_mem, ← e]
  rw [List.getD_eq_getElem?_getD, List.getElem?_eq_getElem (by omega), Option.getD_some]
  rw [List.mem_iff_getElem?]
  exact ⟨i, by rw [List.getElem?_take, if_pos h1, List.getElem?_eq_getElem (by omega)]⟩
theorem GI.step {its : List Int} {into : Bool} {p most : Nat} {parts : Int} {single : List Nat} (G : GI its into p parts single) (hp : p < its.length) (hm : p + most ≤ its.length) (h1 : most = 0 ∨ plF its p (p + most : Nat) into ≠ []) (h2 : p + most < its.length → plF its p (p + most + 1 : Nat) into = []) :
    GI its into (p + max most 1) (parts + 1) (single ++ if most = 0 then [p] else []) := by
  have hp' : p + max most 1 ≤ its.length := by omega
  have nofar : ∀ q, p + max most 1 < q → q ≤ its.length → ¬ alw its into p q := fun q a b c => by
    rcases c with c | c
    · omega
    · obtain ⟨j, hj⟩ := (plF_ne (by omega) b).mp c
      have := (plF_ne (its := its) (into := into) (low := p) (high := p + most + 1) (by omega) (by omega)).mpr ⟨j, hj.prefix (by omega) (by omega)⟩
      exact this (h2 (by omega))
  refine ⟨hp', fun f F => ?_, ?_⟩
  · obtain ⟨f1, f2⟩ := G.fw f F
    have al : alw its into p (p + max most 1) := by
      rcases h1 with h1 | h1
      · subst h1; left; rfl
      · by_cases h0 : most = 0
        · subst h0; left; rfl
        · right
          rw [show max most 1 = most by omega]; exact h1
    have up := F.least _ (by omega) hp' p (by omega) al
    have lo := f2 (p + max most 1) (by omega) hp'
    refine ⟨by omega, fun q a b => ?_⟩
    obtain ⟨k, hk, ha, e⟩ := F.some q (by omega) b
    by_cases hkp : k ≤ p
    · exact absurd (ha.suffix hkp (by omega) b) (nofar q a b)
    · have := f2 k (by omega) (by omega)
      omega
  · unfold news
    rw [G.sg, news, List.range_add, List.filter_append]
    congr 1
    by_cases h0 : most = 0
    · subst h0
      rw [if_pos rfl]
      have : newB its p = true := by
        cases hn : newB its p with
        | true => rfl
        | false =>
          exfalso
          unfold newB at hn
          rw [Bool.not_eq_false', List.contains_iff_mem, List.mem_iff_getElem?] at hn
          obtain ⟨i, hi⟩ := hn
          rw [List.getElem?_take] at hi
          split at hi
          · rename_i hip
            refine (plF_ne (its := its) (into := into) (low := p) (high := p + 0 + 1) (by omega) (by omega)).mpr ⟨i, hip, .inr (by omega), fun t ht => ?_⟩ (h2 (by omega))
            have : t = 0 := by omega
            subst this
            show its.getD i 0 = its.getD p 0
            rw [List.getD_eq_getElem?_getD, hi]; rfl
          · cases hi
      simp [this]
    · rw [if_neg h0, eq_comm, List.filter_eq_nil_iff]
      intro k hk
      rw [List.mem_map] at hk
      obtain ⟨t, ht, rfl⟩ := hk
      rw [List.mem_range] at ht
      rcases h1 with h1 | h1
      · exact absurd h1 h0
      · obtain ⟨j, hj⟩ := (plF_ne (by omega) hm).mp h1
        have := newB_false (its := its) (k := p + t) (i := j + t) (by have := hj.1; omega) (by omega) (hj.2.2 t (by omega))
        simp [this]
end Mine

open PySem PySem.W PyProof.Rows PySem.Calls
set_option maxRecDepth 100000
namespace Mine
section
variable {prog : Program} {w : World} {A : Around} {E : Value → Shared → Prop} {B : Shared} {env : Env} {m : Loc} {hp : Hp} {K : Frag}
theorem EX_AssignCompR {y : PySem.Str} {py spos : Pos} {elt target iter : Expr} {ifs : List Expr} {scope : Scope} {pos : Pos} {cl : List (PySem.Str × Addr)} {Q : AF → Loc → Hp → Prop} (hh : A.handled = none) (hclos : closureFor scope env = pure cl) (hcell : ∀ y ∈ scope.names, y.2 ≠ .cell) (hnames : ∀ x ∈ scope.names, x.2 = .local → scope.names.lookup x.1 = some .local)
    (h : EV (model prog w) A E B env iter m hp fun o hp₁ => ∃ rg ob a b, o = .ref rg ∧ hp₁ rg = some (.obj ob) ∧ rg ≠ env.locals ∧ RangeOb ob a b ∧ -(2 ^ 62) ≤ a ∧ a < 2 ^ 62 ∧ -(2 ^ 62) ≤ b ∧ b < 2 ^ 62 ∧ (b - a).toNat ≤ 1000 ∧ ∀ it acc C, hp₁ it = none → it ≠ env.locals → hp₁ acc = none → acc ≠ env.locals → acc ≠ it → hp₁ C = none → C ≠ env.locals → C ≠ it → C ≠ acc →
      ∃ I : Nat → List AV → Loc → Hp → Prop, (∀ ob, I 0 [] (fun _ => none) (((hp₁.set env.locals (.ns m)).set it (.obj ob)).set acc (.list []))) ∧ (∀ i ys m₂ hp₂ ob, I i ys m₂ hp₂ → I i ys m₂ (hp₂.set it (.obj ob))) ∧ (∀ i ys m₂ hp₂ zs, I i ys m₂ hp₂ → I i ys m₂ (hp₂.set acc (.list zs))) ∧
        (∀ i ys m₂ hp₂ ob, i < (b - a).toNat → I i ys m₂ hp₂ → hp₂ it = some (.obj ob) → hp₂ acc = some (.list ys) → ASG (model prog w) A (fun _ _ => False) B (compEnvC scope cl C env) target (.int (a + i)) m₂ hp₂ fun m₃ hp₃ => TSTs (model prog w) A (fun _ _ => False) B (compEnvC scope cl C env) ifs m₃ hp₃ fun b hp₄ =>
          if b then EV (model prog w) A (fun _ _ => False) B (compEnvC scope cl C env) elt m₃ hp₄ fun v hp₅ => I (i + 1) (ys ++ [v]) m₃ hp₅ ∧ hp₅ it = some (.obj ob) ∧ hp₅ acc = some (.list ys)
          else I (i + 1) ys m₃ hp₄ ∧ hp₄ it = some (.obj ob) ∧ hp₄ acc = some (.list ys)) ∧
        (∀ ys m₂ hp₂, I (b - a).toNat ys m₂ hp₂ → hp₂ acc = some (.list ys) → ∃ hp₃, Hp.Le (hp₃.set env.locals (.ns m)) (hp₂.del it) ∧ hp₃ C = none ∧ Q .next (upd m y (.ref acc)) hp₃))
    (hs : ∀ x, foldedSetIterable iter env x = pure x := by intro _; rfl) (hkind : scope.kind = .function := by rfl) (hsw : swapsWith (.ListComp elt [⟨target, iter, ifs, 0⟩] scope pos) (some (.Name y py)) spos.line env = pure true := by rfl) (hly : env.kindOf y = some .local := by rfl)
    (hky : (env.scope.kind == .class || (env.scope.kind == .module && env.locals != env.globals)) = false := by rfl) :
    EX (model prog w) A E B env (.Assign [.Name y py] (.ListComp elt [⟨target, iter, ifs, 0⟩] scope pos) spos) m hp Q := fun s r => by
  rw [exec_Assign_Name_used _ _ _ _ hsw]
  refine wpAny_bind (wpAny_standAt (wpAny_bind ?_))
  show wpAny _ _ (comprehension (.ListComp elt [⟨target, iter, ifs, 0⟩] scope pos) scope env (firstIterPos [⟨target, iter, ifs, 0⟩] pos) (newList []) false (eval iter env) (some (assign (.Name y py) env)) >>= fun _ => pure ()) _ _ _
  refine wpAny_bind ?_
  refine wpAny_comprehension_free (use := some (assign (.Name y py) env)) rfl hs hclos hkind hnames (h.use r fun u s₁ o hp₁ r₁ le₁ hu x => ?_)
  obtain ⟨rg, ob, a, b, rfl, hrg, hrL, ⟨t, u', v', rfl⟩, ha, ha', hb, hb', hlen, x⟩ := x
  simp only [VR] at hu; subst hu
  have hro := (r₁.at hrg hrL).1
  refine wpAny_pyIter_range hro (small_one ha ha' hb hb') ?_
  have hsz : Builtin.Range.rangeSize a b 1 = ((b - a).toNat : Int) := by rw [rangeSize_one]; split <;> omega
  have n := r₁.newAt { cls := .type "range_iterator", data := .fields #[rawInt a, rawInt (Builtin.Range.rangeSize a b 1), rawInt 1] } (.obj { cls := .type "range_iterator", data := .fields #[rawInt a, rawInt (Builtin.Range.rangeSize a b 1), rawInt 1] }) ⟨Heap.get?_push_size _ rfl, fun i => by obtain ⟨_, _, _, e⟩ := i; cases e⟩
  generalize hit : s₁.heap.objs.size = it at *
  have n2 := Rel.newAt n.1 { cls := .type "list", data := .seq #[] } (.list []) ⟨#[], 0, IsL.new _ _, by simp [VRs]⟩
  have le2 : ImmLe s.heap ((s₁.heap.push { cls := .type "range_iterator", data := .fields #[rawInt a, rawInt (Builtin.Range.rangeSize a b 1), rawInt 1] }).push { cls := .type "list", data := .seq #[] }) := (le₁.trans n.2.2.2).trans n2.2.2.2
  refine wpAny_newObj_type ?_
  dsimp only
  have n2c : hp₁.set it (.obj { cls := .type "range_iterator", data := .fields #[rawInt a, rawInt (Builtin.Range.rangeSize a b 1), rawInt 1] }) (s₁.heap.push { cls := .type "range_iterator", data := .fields #[rawInt a, rawInt (Builtin.Range.rangeSize a b 1), rawInt 1] }).objs.size = none := n2.2.1
  have n2d : (s₁.heap.push { cls := .type "range_iterator", data := .fields #[rawInt a, rawInt (Builtin.Range.rangeSize a b 1), rawInt 1] }).objs.size ≠ env.locals := n2.2.2.1
  have n2e := n2.1
  generalize hac : (s₁.heap.push { cls := .type "range_iterator", data := .fields #[rawInt a, rawInt (Builtin.Range.rangeSize a b 1), rawInt 1] }).objs.size = acc at *
  refine wpAny_newFunctionEnv hcell (by intro y hy; simp at hy) (fun h₁ hns₁ hsb₁ => ?_) hkind
  dsimp only at hns₁ hsb₁ ⊢
  have n2f : Rel B (((hp₁.set it (.obj { cls := .type "range_iterator", data := .fields #[rawInt a, rawInt (Builtin.Range.rangeSize a b 1), rawInt 1] })).set acc (.list [])).set env.locals (.ns m)) { s₁ with heap := (s₁.heap.push { cls := .type "range_iterator", data := .fields #[rawInt a, rawInt (Builtin.Range.rangeSize a b 1), rawInt 1] }).push { cls := .type "list", data := .seq #[] } } := n2e
  generalize hH2 : (s₁.heap.push { cls := .type "range_iterator", data := .fields #[rawInt a, rawInt (Builtin.Range.rangeSize a b 1), rawInt 1] }).push { cls := .type "list", data := .seq #[] } = H2 at *
  have hacit : acc ≠ it := fun e => by rw [e, Hp.set_same] at n2c; cases n2c
  have hacp : hp₁ acc = none := by rw [Hp.set_ne _ _ hacit] at n2c; exact n2c
  have fr := n2f.fresh
  have hCe : H2.objs.size ≠ env.locals := fun e => by rw [show ({ s₁ with heap := H2 } : Shared).heap.objs.size = H2.objs.size from rfl, e, Hp.set_same] at fr; cases fr
  rw [show ({ s₁ with heap := H2 } : Shared).heap.objs.size = H2.objs.size from rfl, Hp.set_ne _ _ hCe] at fr
  have hCa : H2.objs.size ≠ acc := fun e => by rw [e, Hp.set_same] at fr; cases fr
  rw [Hp.set_ne _ _ hCa] at fr
  have hCi : H2.objs.size ≠ it := fun e => by rw [e, Hp.set_same] at fr; cases fr
  rw [Hp.set_ne _ _ hCi] at fr
  generalize hC : H2.objs.size = C at *
  have k₀ : ∀ b o, H2.get? b = some o → h₁.get? b = some o := fun b o e => hsb₁.extBut b o (by rw [← hC]; exact Nat.ne_of_lt (Heap.lt_size e)) (Heap.get?_push_of_some _ e)
  obtain ⟨I, i0, iset, iacc, iturn, ifin⟩ := x it acc C n.2.1 n.2.2.1 hacp n2d hacit fr hCe hCi hCa
  have e1 : ((hp₁.set it (.obj { cls := .type "range_iterator", data := .fields #[rawInt a, rawInt (Builtin.Range.rangeSize a b 1), rawInt 1] })).set acc (.list [])).set env.locals (.ns m) = ((hp₁.set env.locals (.ns m)).set it (.obj { cls := .type "range_iterator", data := .fields #[rawInt a, rawInt (Builtin.Range.rangeSize a b 1), rawInt 1] })).set acc (.list []) := by
    rw [Hp.set_comm _ _ _ n2d, Hp.set_comm _ _ _ n.2.2.1]
  rw [e1] at n2f
  have rel : Rel B ((((hp₁.set env.locals (.ns m)).set it (.obj { cls := .type "range_iterator", data := .fields #[rawInt a, rawInt (Builtin.Range.rangeSize a b 1), rawInt 1] })).set acc (.list [])).set C (.ns fun _ => none)) { s₁ with heap := h₁, toks := s₁.toks + 0 } := by
    refine ⟨fun b o e => k₀ _ _ (n2f.keep b o e), fun z o' e => ?_, n2f.os, n2f.bare, ?_⟩
    · by_cases hz : z = C
      · subst hz
        rw [Hp.set_same] at e
        cases e
        exact ⟨by rw [← hC]; exact n2f.size, _, hns₁, ⟨fun x v e => by simp at e, fun x _ => rfl⟩⟩
      · rw [Hp.set_ne _ _ hz] at e
        exact ⟨(n2f.objs z o' e).1, (n2f.objs z o' e).2.here (ImmLe.keep k₀) fun o'' e => k₀ _ _ e⟩
    · show _ ≤ h₁.objs.size
      rw [hsb₁.1, Heap.size_push]
      exact Nat.le_trans n2f.size (Nat.le_succ _)
  generalize hPP : (fun (_ : Value) s' => wpAny (model prog w) A (pure () : Sem Unit) (fun _ s' => wpAny (model prog w) A (pure Flow.next) (fun fl s' => ∃ af m' hp', Rel B (hp'.set env.locals (.ns m')) s' ∧ ImmLe s.heap s'.heap ∧ FR s'.heap af fl ∧ Q af m' hp') E s') E s') = PP
  have loop : codeAny (model prog w) A (.compLoop (.ListComp elt [⟨target, iter, ifs, 0⟩] scope pos) 0 (.ref it) (.ref acc) (compEnvC scope cl C env))
      (compPost (model prog w) A E (some (assign (.Name y py) env)) PP (.ref acc) C) { s₁ with heap := h₁, toks := s₁.toks + 0 } := by
    refine Comp_core (n := (b - a).toNat) (env := compEnvC scope cl C env) (el := fun i => .int (a + i)) (st := fun i ob => ob = { cls := .type "range_iterator", dict := none, data := .fields #[rawInt (a + i), rawInt ((b - a).toNat - i), rawInt 1], slots := #[] }) (I := I) (s₀ := s) (Ne.symm hCi) (Ne.symm hCa) hlen (fun i ob x i' => by obtain ⟨_, _, _, e⟩ := i'; rw [x] at e; cases e)
      (fun i ys m₂ hp₂ s' ob hi hI hob hst r' E' W k => ?_) (fun ys m₂ hp₂ s' ob hI hob hst r' E' W k => ?_) iset iacc (fun i ys m₂ hp₂ ob hi hI hob hac => iturn i ys m₂ hp₂ ob hi hI hob hac)
      (fun ys m' hp' s' hI hac r' le' => ?_) (i0 _) (by rw [Hp.set_ne _ _ (Ne.symm hacit), Hp.set_same]) (Hp.set_same ..) (by rw [hsz]; simp) rel (le2.trans (ImmLe.keep k₀)) (fun _ _ x => ⟨"range_iterator", congrArg Obj.cls x, rfl⟩)
    · subst hst
      have hg : s'.heap.get? it = some _ := (r'.at hob (Ne.symm hCi)).1
      refine wpAny_pyNext_range_item (x := a + i) (left := (b - a).toNat - i) (step := 1) hg (by omega) fun h' hit' hs' => ?_
      exact k _ h' _ _ VR_int hit' (by
        have e1 : a + (i : Int) + 1 = a + ((i + 1 : Nat) : Int) := by push_cast; omega
        have e2 : (((b - a).toNat : Int) - i - 1) = ((b - a).toNat - ((i + 1 : Nat) : Int)) := by push_cast; omega
        rw [e1, e2]) hs'
    · subst hst
      have hg : s'.heap.get? it = some _ := (r'.at hob (Ne.symm hCi)).1
      exact wpAny_pyNext_range_end hh (x := a + (b - a).toNat) (left := (b - a).toNat - (b - a).toNat) (step := 1) hg (by omega) fun h' he => k h' s'.toks he
    · obtain ⟨hp₃, hle3, hc3, q⟩ := ifin ys m' hp' hI hac
      have r1 : Rel B ((hp₃.set C (.ns m')).set env.locals (.ns m)) s' := r'.sub fun z o hz => by
        show ((hp'.del it).set C (.ns m')) z = some o
        by_cases hzC : z = C
        · subst hzC
          rw [Hp.set_ne _ _ hCe, Hp.set_same] at hz
          rw [Hp.set_same]; exact hz
        · rw [Hp.set_ne _ _ hzC]
          refine hle3 _ _ ?_
          by_cases hze : z = env.locals
          · subst hze; rw [Hp.set_same] at hz ⊢; exact hz
          · rw [Hp.set_ne _ _ hze, Hp.set_ne _ _ hzC] at hz
            rw [Hp.set_ne _ _ hze]; exact hz
      refine PyProof.Rows.assign_Name (store_local r1 (VR_ref (a := acc)) (fun s₂ r₂ le₂ => ?_) hly hky)
      obtain ⟨mv, hn, _⟩ := (r₂.objs C (.ns m') (by rw [Hp.set_ne _ _ hCe, Hp.set_same])).2
      refine ⟨mv, hn, fun h' hs' => ?_⟩
      have f := r₂.forget (C := C) (o := .ns m') (by rw [Hp.set_ne _ _ hCe, Hp.set_same]) hs' s₂.toks
      rw [← hPP]
      refine wpAny_pure (wpAny_pure ⟨.next, _, hp₃, f.1.sub fun z o hz => ?_, (le'.trans le₂).trans f.2, rfl, q⟩)
      have hzC : z ≠ C := fun e => by rw [e, Hp.set_ne _ _ hCe, hc3] at hz; cases hz
      rw [Hp.del_ne _ hzC]
      by_cases hze : z = env.locals
      · subst hze; rw [Hp.set_same] at hz ⊢; exact hz
      · rw [Hp.set_ne _ _ hze] at hz
        rw [Hp.set_ne _ _ hze, Hp.set_ne _ _ hzC]; exact hz
  have hiter : h₁.get? it = some { cls := .type "range_iterator", data := .fields #[rawInt a, rawInt (Builtin.Range.rangeSize a b 1), rawInt 1] } := (rel.objs it (.obj { cls := .type "range_iterator", data := .fields #[rawInt a, rawInt (Builtin.Range.rangeSize a b 1), rawInt 1] }) (by rw [Hp.set_ne _ _ (Ne.symm hCi), Hp.set_ne _ _ (Ne.symm hacit), Hp.set_same])).2.1
  exact codeAny_compStart_list loop (wpAny_pyIter_rangeiter (s := { s₁ with heap := h₁, toks := s₁.toks + 0 }) (x := a) (left := Builtin.Range.rangeSize a b 1) (step := 1) hiter loop)
theorem EX_AssignCompRP {y : PySem.Str} {py spos : Pos} {elt iter : Expr} {x : PySem.Str} {tpos} {ifs : List Expr} {scope : Scope} {pos : Pos} {cl : List (PySem.Str × Addr)} {p : Nat → Bool} {e : Nat → AV} {Q : AF → Loc → Hp → Prop} (hh : A.handled = none) (hclos : closureFor scope env = pure cl) (hcell : ∀ y ∈ scope.names, y.2 ≠ .cell) (hnames : ∀ x ∈ scope.names, x.2 = .local → scope.names.lookup x.1 = some .local)
    (hx : ∀ C, (compEnvC scope cl C env).kindOf x = some .local)
    (h : EV (model prog w) A E B env iter m hp fun o hp₁ => ∃ rg ob a b, o = .ref rg ∧ hp₁ rg = some (.obj ob) ∧ rg ≠ env.locals ∧ RangeOb ob a b ∧ -(2 ^ 62) ≤ a ∧ a < 2 ^ 62 ∧ -(2 ^ 62) ≤ b ∧ b < 2 ^ 62 ∧ (b - a).toNat ≤ 1000 ∧
      (∀ C m₂ hp₂ (i : Nat), i < (b - a).toNat → hp₁ C = none → C ≠ env.locals → Hp.Le (hp₁.set env.locals (.ns m)) hp₂ → m₂ x = some (.int (a + i)) →
        TSTs (model prog w) A (fun _ _ => False) B (compEnvC scope cl C env) ifs m₂ hp₂ fun t hp₄ => t = p i ∧ Hp.Le hp₂ hp₄ ∧ (t = true → EV (model prog w) A (fun _ _ => False) B (compEnvC scope cl C env) elt m₂ hp₄ fun v hp₅ => v = e i ∧ Hp.Le hp₄ hp₅)) ∧
      ∀ acc, hp₁ acc = none → acc ≠ env.locals → Q .next (upd m y (.ref acc)) (hp₁.set acc (.list (((List.range (b - a).toNat).filter p).map e))))
    (hs : ∀ x, foldedSetIterable iter env x = pure x := by intro _; rfl) (hkind : scope.kind = .function := by rfl) (hsw : swapsWith (.ListComp elt [⟨.Name x tpos, iter, ifs, 0⟩] scope pos) (some (.Name y py)) spos.line env = pure true := by rfl) (hly : env.kindOf y = some .local := by rfl)
    (hky : (env.scope.kind == .class || (env.scope.kind == .module && env.locals != env.globals)) = false := by rfl) :
    EX (model prog w) A E B env (.Assign [.Name y py] (.ListComp elt [⟨.Name x tpos, iter, ifs, 0⟩] scope pos) spos) m hp Q := by
  refine EX_AssignCompR hh hclos hcell hnames (h.mono fun o hp₁ yy => ?_) hs hkind hsw hly hky
  obtain ⟨rg, ob, a, b, rfl, hrg, hrL, hro, ha, ha', hb, hb', hlen, hturn, hfin⟩ := yy
  refine ⟨rg, ob, a, b, rfl, hrg, hrL, hro, ha, ha', hb, hb', hlen, fun it acc C h1 h2 h3 h4 h5 h6 h7 h8 h9 => ?_⟩
  have b1 : (hp₁.set env.locals (.ns m)) it = none := by rw [Hp.set_ne _ _ h2]; exact h1
  have b2 : (hp₁.set env.locals (.ns m)) acc = none := by rw [Hp.set_ne _ _ h4]; exact h3
  refine ⟨fun i ys _ hp₂ => Hp.Le (hp₁.set env.locals (.ns m)) hp₂ ∧ ys = ((List.range i).filter p).map e, fun ob => ⟨((Hp.Le.refl _).set b1 _).set b2 _, rfl⟩, fun i ys m₂ hp₂ ob y => ⟨y.1.set b1 _, y.2⟩, fun i ys m₂ hp₂ zs y => ⟨y.1.set b2 _, y.2⟩, fun i ys m₂ hp₂ ob hi y hit hac => ?_, fun ys m₂ hp₂ y hac => ?_⟩
  · refine ASG_Name (fun s r => ?_) (hx C) (by show (scope.kind == .class || (scope.kind == .module && _)) = false; rw [hkind]; rfl)
    refine wpAny_mono (hturn C _ hp₂ i hi h6 h7 y.1 (by simp [upd]) s r) (fun t s' ⟨hp₄, r₄, le₄, q1, q2, q3⟩ => ⟨hp₄, r₄, le₄, ?_⟩) fun _ _ z => z
    have hr : ((List.range (i + 1)).filter p).map e = ys ++ (if p i then [e i] else []) := by rw [List.range_succ, List.filter_append, List.map_append, y.2]; congr 1; by_cases hp' : p i <;> simp [hp']
    cases t with
    | false =>
      show _ ∧ _
      exact ⟨⟨y.1.trans q2, by rw [hr, ← q1]; simp⟩, q2 _ _ hit, q2 _ _ hac⟩
    | true =>
      show EV _ _ _ _ _ _ _ _ _
      exact (q3 rfl).mono fun v hp₅ z => ⟨⟨(y.1.trans q2).trans z.2, by rw [hr, ← q1, z.1]; simp⟩, z.2 _ _ (q2 _ _ hit), z.2 _ _ (q2 _ _ hac)⟩
  · refine ⟨hp₁.set acc (.list ys), fun z o hz => ?_, by rw [Hp.set_ne _ _ h9]; exact h6, by rw [y.2]; exact hfin acc h3 h4⟩
    have hzi : z ≠ it := fun e => by
      rw [e, Hp.set_ne _ _ h2, Hp.set_ne _ _ (Ne.symm h5)] at hz
      rw [h1] at hz; cases hz
    rw [Hp.del_ne _ hzi]
    by_cases hza : z = acc
    · rw [hza, Hp.set_ne _ _ h4, Hp.set_same] at hz
      rw [hza, hac]; exact hz
    · refine y.1 z o ?_
      by_cases hze : z = env.locals
      · rw [hze, Hp.set_same] at hz ⊢; exact hz
      · rw [Hp.set_ne _ _ hze, Hp.set_ne _ _ hza] at hz
        rw [Hp.set_ne _ _ hze]; exact hz
end
end Mine

open PySem PySem.W PyProof.Rows PySem.Calls
set_option maxRecDepth 100000
set_option maxHeartbeats 4000000
namespace Mine
def IsSeq (h : Heap) (t : Addr) (items : Array Value) : Prop := ∃ o n, h.get? t = some o ∧ o.data = .seq items n
theorem IsMat.seq {h : Heap} {t : Addr} {items : Array Value} (x : IsMat h t items) : IsSeq h t items := let ⟨o, ho, _, n, hd⟩ := x; ⟨o, n, ho, hd⟩
theorem IsSeq.extBut {h h' : Heap} {t it : Addr} {items : Array Value} (x : IsSeq h t items) (e : Heap.ExtBut it h h') (hne : t ≠ it) : IsSeq h' t items := let ⟨o, n, ho, hd⟩ := x; ⟨o, n, e t o hne ho, hd⟩
theorem IsSeq.push {h : Heap} {t : Addr} {items : Array Value} (x : IsSeq h t items) (ob : Obj) : IsSeq (h.push ob) t items := let ⟨o, n, ho, hd⟩ := x; ⟨o, n, Heap.get?_push_of_some _ ho, hd⟩
section
variable {prog : Program} {w : World} {A : Around} {E : Value → Shared → Prop} {s : Shared}
theorem seq_next {it t : Addr} {i : Nat} {items : Array Value} {x : Value} {Q : Option Value → Shared → Prop} (hit : IsTupIter s.heap it t i) (ht : IsSeq s.heap t items) (hx : items[i]? = some x)
    (hQ : ∀ h', IsTupIter h' it t (i + 1) → Heap.SameBut it s.heap h' → Q (some x) { s with heap := h' }) : wpAny (model prog w) A (pyNext (.ref it)) Q E s := by
  obtain ⟨o, ho, hc, hd⟩ := id hit
  obtain ⟨ol, nl, hol, hdl⟩ := ht
  unfold pyNext
  refine wpAny_bind (wpAny_attempt (wpAny_callSpecial?_slot (name := PySem.Str.ofString "__next__") hit.typeIs slot_tupleiter_next (wpAny_call_entry slot_tupleiter_next hit.typeIs entry_tupleiter_next ?_ (args_tupleiter_next _))))
  show wpAny _ _ (field (.ref it) 0 >>= _) _ _ s
  refine wpAny_bind (wpAny_field ho hd (x := .ref t) rfl ?_)
  show wpAny _ _ (if (Value.ref t == Value.none) = true then _ else _) _ _ s
  rw [if_neg (show ¬ ((Value.ref t == Value.none) = true) from Bool.false_ne_true)]
  show wpAny _ _ (field (.ref it) 1 >>= _) _ _ s
  refine wpAny_bind (wpAny_field ho hd (x := .int i 0) rfl ?_)
  show wpAny _ _ (seqItems? (.ref t) >>= _) _ _ s
  refine wpAny_bind (wpAny_seqItems hol hdl ?_)
  simp only [Int.toNat_natCast, hx]
  refine wpAny_bind (wpAny_setField ho hd (by simp) (wpAny_pure ⟨x, rfl, wpAny_pure (hQ _ ?_ (Heap.SameBut.update ..))⟩))
  exact ⟨_, Heap.get?_update_self _ ho (Obj.isFreed_of_fields (Obj.data_mapFields hd _)), (Obj.cls_mapFields ..).trans hc, by rw [Obj.data_mapFields hd]; simp [rawInt]⟩
theorem seq_end {it t : Addr} {i : Nat} {items : Array Value} {Q : Option Value → Shared → Prop} (hh : A.handled = none) (hit : IsTupIter s.heap it t i) (ht : IsSeq s.heap t items) (hx : items[i]? = none)
    (hQ : ∀ h', Heap.ExtBut it s.heap h' → Q none { s with heap := h' }) : wpAny (model prog w) A (pyNext (.ref it)) Q E s := by
  obtain ⟨o, ho, hc, hd⟩ := id hit
  obtain ⟨ol, nl, hol, hdl⟩ := ht
  unfold pyNext
  refine wpAny_bind (wpAny_attempt (wpAny_callSpecial?_slot (name := PySem.Str.ofString "__next__") hit.typeIs slot_tupleiter_next (wpAny_call_entry slot_tupleiter_next hit.typeIs entry_tupleiter_next ?_ (args_tupleiter_next _))))
  show wpAny _ _ (field (.ref it) 0 >>= _) _ _ s
  refine wpAny_bind (wpAny_field ho hd (x := .ref t) rfl ?_)
  show wpAny _ _ (if (Value.ref t == Value.none) = true then _ else _) _ _ s
  rw [if_neg (show ¬ ((Value.ref t == Value.none) = true) from Bool.false_ne_true)]
  show wpAny _ _ (field (.ref it) 1 >>= _) _ _ s
  refine wpAny_bind (wpAny_field ho hd (x := .int i 0) rfl ?_)
  show wpAny _ _ (seqItems? (.ref t) >>= _) _ _ s
  refine wpAny_bind (wpAny_seqItems hol hdl ?_)
  simp only [Int.toNat_natCast, hx]
  refine wpAny_bind (wpAny_rule (wpAny_bind (wpAny_setField ho hd (by simp) ?_)))
  show wpAny _ _ (newExc (.type "StopIteration") [] >>= _) _ _ _
  refine wpAny_bind ?_
  simp only [newExc, newTuple]
  refine wpAny_bind (wpAny_newObj_type ?_ (by size_fits))
  refine wpAny_bind (m := firstArgMember _ _) (wpAny_of_eq (a := Value.none) (by first | rfl | (simp only [firstArgMember]; rfl)) ?_)
  refine wpAny_newObj_type ?_ (by size_fits)
  simp only [raiseNew]
  refine wpAny_bind (wpAny_handled ?_)
  rw [show A.in1.handled = none from hh]
  refine wpAny_bind (wpAny_pure (wpAny_throw ?_))
  refine wpAny_bind (wpAny_isInstance (T := "StopIteration") (b := true) ⟨_, Heap.get?_push_size _ rfl, rfl⟩ isSubtype_stop ?_)
  exact wpAny_pure (hQ _ (((Heap.SameBut.update ..).extBut.push _).push _))
theorem seq_draw {it t : Addr} {items : Array Value} (hne : t ≠ it) : ∀ (n i : Nat) (s : Shared) (Q : List Value → Shared → Prop), IsTupIter s.heap it t i → IsSeq s.heap t items → i + n ≤ items.size →
    (∀ h', IsTupIter h' it t (i + n) → Heap.SameBut it s.heap h' → Q ((items.toList.drop i).take n) { s with heap := h' }) → wpAny (model prog w) A (draw (.ref it) n) Q E s
  | 0, i, s, Q, hit, _, _, hQ => wpAny_pure (by simpa using hQ s.heap hit (Heap.SameBut.refl ..))
  | n + 1, i, s, Q, hit, ht, hle, hQ => by
    have hlt : i < items.size := by omega
    show wpAny _ _ (pyNext (.ref it) >>= _) Q E s
    refine wpAny_bind (seq_next hit ht (x := items[i]) (by simp [hlt]) fun h₁ hit₁ hs₁ => ?_)
    refine wpAny_bind (wpAny_holding (seq_draw hne n (i + 1) _ _ hit₁ (ht.extBut hs₁.extBut hne) (by omega) fun h₂ hit₂ hs₂ => wpAny_pure ?_))
    have hd : items.toList.drop i = items[i] :: items.toList.drop (i + 1) := by simp [List.drop_eq_getElem_cons, hlt]
    have := hQ h₂ (by rw [show i + (n + 1) = i + 1 + n by omega]; exact hit₂) (hs₁.trans hs₂)
    rw [hd, List.take_succ_cons] at this
    exact this
theorem ti_kind : builtinKind "tuple.__iter__" = some .slot := by decide +kernel
theorem ti_split : splitId "tuple.__iter__" = some ("tuple", "__iter__") := by decide +kernel
theorem iter_mat {K : Frag} {t : Addr} {items : Array Value} {Q : Value → Shared → Prop} (X : K.In s.heap) (hf : findIn K (.ref 135) "__iter__" = some (some (.builtin "tuple.__iter__"))) (hm : mroIn K 135 (.type "tuple") = some true) (ht : IsMat s.heap t items)
    (hQ : Q (.ref s.heap.objs.size) { s with heap := s.heap.push { cls := .type "tuple_iterator", data := .fields #[.ref t, .int 0 0] } }) : wpAny (model prog w) A (pyIter (.ref t)) Q E s := by
  obtain ⟨o, ho, hc, n, hd⟩ := ht
  have t1 : Looks (model prog w) s.heap (typeOf (.ref t)) (.ref 135) := by rw [← hc]; exact (Looks.ld ho).andThen .now
  have t2 : Looks (model prog w) s.heap (isInstance (.ref t) (.type "tuple")) true := t1.andThen (looks_mroIn X hm)
  have t3 := looks_findIn (M := model prog w) X hf
  have go : ∀ {W : Value → Shared → Prop}, W (.ref s.heap.objs.size) { s with heap := s.heap.push { cls := .type "tuple_iterator", data := .fields #[.ref t, .int 0 0] } } → wpAny (model prog w) A (call (.builtin "tuple.__iter__") [.ref t]) W E s := fun {W} hW => by
    refine wpAny_call (codeAny_call_builtin slot_tuple_iter.plain entry_tuple_iter (check_slot ti_kind ti_split t2 (args_tuple_iter _) ?_))
    show wpAny _ _ (do ret (← newFields "tuple_iterator" [.ref t, rawInt 0])) _ _ s
    exact wpAny_bind (wpAny_newObj_type (wpAny_pure hW))
  unfold pyIter callSpecialIfBoundUnlessNone? bindSpecialIfBound? specialOf
  refine wpAny_bind (wpAny_bind (t1.here (t3.here ?_)))
  dsimp only
  refine wpAny_bind (wpAny_holding (wpAny_bind (wpAny_bind (wpAny_bind (t1.here (t3.here ?_))))))
  dsimp only
  rw [slot_tuple_iter.bind]
  refine wpAny_bind (wpAny_askSetting (wpAny_ite ?_))
  have fin : ∀ {W : Option Value → Shared → Prop}, W (some (.ref s.heap.objs.size)) { s with heap := s.heap.push { cls := .type "tuple_iterator", data := .fields #[.ref t, .int 0 0] } } → wpAny (model prog w) A (if (Value.builtin "tuple.__iter__" == Value.none) = true then ((do rule "iter.none"; raiseError "TypeError" s!"'{← typeNameOf (.ref t)}' object is not iterable") >>= fun v => pure (some v)) else (call (.builtin "tuple.__iter__") [.ref t] >>= fun v => pure (some v))) W E s := fun {W} hW => by
    rw [if_neg (by rw [builtin_beq_none]; decide)]
    exact wpAny_bind (go (wpAny_pure hW))
  have last : wpAny (model prog w) A (match some (Value.ref s.heap.objs.size) with
    | some it => (do match ← specialOf it "__next__" with
      | none => rule "iter.non-iterator"; raiseError "TypeError" s!"iter() returned non-iterator of type '{← typeNameOf it}'"
      | some _ => pure it)
    | none => unsupported "") Q E { s with heap := s.heap.push { cls := .type "tuple_iterator", data := .fields #[.ref t, .int 0 0] } } :=
    wpAny_bind (wpAny_specialOf (T := "tuple_iterator") ⟨_, Heap.get?_push_size _ rfl, rfl⟩ slot_tupleiter_next.lookup (wpAny_pure hQ))
  split
  · exact wpAny_bind (wpAny_pure (wpAny_pure (fin last)))
  · exact wpAny_tryCatch (wpAny_bind (wpAny_pure (wpAny_pure (fin last))))
end
end Mine

open PySem PySem.W PyProof.Rows PySem.Calls
set_option maxRecDepth 100000
set_option maxHeartbeats 4000000
namespace Mine
section
variable {prog : Program} {w : World} {A : Around} {E : Value → Shared → Prop} {B : Shared} {env : Env} {m : Loc} {hp : Hp} {K : Frag}
theorem unpackItems_mat {s : Shared} {t : Addr} {items : Array Value} {Q : List Value → Shared → Prop} (X : K.In s.heap) (hf : findIn K (.ref 135) "__iter__" = some (some (.builtin "tuple.__iter__"))) (hm : mroIn K 135 (.type "tuple") = some true) (hh : A.handled = none) (ht : IsMat s.heap t items)
    (hQ : ∀ h', Heap.ExtBut s.heap.objs.size s.heap h' → Q items.toList { s with heap := h' }) : wpAny (model prog w) A (unpackItems (.ref t) items.size none) Q E s := by
  have hts := ht.seq
  have hlt : t ≠ s.heap.objs.size := by obtain ⟨o, n, ho, _⟩ := hts; exact Nat.ne_of_lt (Heap.lt_size ho)
  obtain ⟨o, ho, hc, n, hd⟩ := id ht
  have t1 : Looks (model prog w) s.heap (typeOf (.ref t)) (.ref 135) := by rw [← hc]; exact (Looks.ld ho).andThen .now
  unfold unpackItems notIterableAtAll specialOf
  refine wpAny_bind (wpAny_bind (wpAny_bind (t1.here ((looks_findIn X hf).here ?_))))
  refine wpAny_pure ?_
  simp only [Bool.false_eq_true, if_false]
  refine wpAny_bind (wpAny_holding (iter_mat X hf hm ht ?_))
  refine wpAny_bind (wpAny_holding (seq_draw hlt items.size 0 _ _ ⟨_, Heap.get?_push_size _ rfl, rfl, rfl⟩ (hts.push _) (by omega) fun h₁ hit₁ hs₁ => ?_))
  have hall : List.take items.size (List.drop 0 items.toList) = items.toList := by
    rw [List.drop_zero]; exact List.take_of_length_le (by simp)
  rw [hall]
  rw [if_neg (by simp)]
  have ht₁ : IsSeq h₁ t items := (hts.push _).extBut hs₁.extBut hlt
  refine wpAny_bind (wpAny_holding (seq_end hh hit₁ ht₁ (by simp) fun h₂ he₂ => ?_))
  simp only [Option.isSome_none, Bool.false_eq_true, if_false]
  exact wpAny_pure (hQ h₂ fun b o hb e => he₂ b o hb (hs₁.extBut b o hb (Heap.get?_push_of_some _ e)))
theorem ASG_TupleM {elts : List Expr} {k pos} {xs : List AV} {ts : List (Value → Sem Unit)} {Q : Loc → Hp → Prop} (G : Gnd K B) (hf : findIn K (.ref 135) "__iter__" = some (some (.builtin "tuple.__iter__"))) (hm : mroIn K 135 (.type "tuple") = some true) (hh : A.handled = none) (hts : (assignEach elts env).map (·.2) = ts) (hn : (assignEach elts env).length = xs.length) (hstar : (assignEach elts env).findIdx? (·.1) = none)
    (h : ASGS (model prog w) A E B env ts xs m hp Q) : ASG (model prog w) A E B env (.Tuple elts k pos) (.mat xs) m hp Q := fun s v r hv => by
  simp only [VR] at hv
  obtain ⟨a, vs, rfl, ht, hvs⟩ := hv
  rw [PyProof.Rows.assign_Tuple]
  refine wpAny_bind (wpAny_standAt ?_)
  unfold unpack
  rw [hn, hstar, ← hvs.length, Array.length_toList]
  refine wpAny_bind (wpAny_holding (unpackItems_mat (G.X.keeps r.keep) hf hm hh ht fun h' he => ?_))
  obtain ⟨r', le⟩ := r.ext he s.toks
  rw [hts]
  exact wpAny_mono (h _ _ r' (hvs.mono le)) (fun _ s₂ ⟨m₂, hp₂, r₂, le₂, q⟩ => ⟨m₂, hp₂, r₂, le.trans le₂, q⟩) fun _ _ x => x
theorem OP_floordiv {a b : Int} {Q : AV → Hp → Prop} (hb : b ≠ 0) (hs : b.natAbs < 1073741824) (h : Q (.int (a.fdiv b)) hp) : OP2 (model prog w) A E B env (binaryOp .FloorDiv) m (.int a) (.int b) hp Q := fun s u v r hu hv => by
  simp only [VR] at hu hv; obtain ⟨t, rfl⟩ := hu; obtain ⟨t', rfl⟩ := hv
  exact PyProof.Rows.floordiv_int hb ⟨_, hp, r.toks _, .refl _, VR_int, h⟩ (.inl (PyProof.noPylong_small hs))
theorem OP_notinI {a : Addr} {xs : List Int} {k : Int} {Q : AV → Hp → Prop} (hl : Lst B hp env.locals a (xs.map .int)) (hu : A.units + 4 < cLine) (h : Q (.bool (!xs.contains k)) hp) : OP2 (model prog w) A E B env (compareOp .NotIn) m (.int k) (.ref a) hp Q := fun s u v r hu' hv => by
  have rl : RD B hp env.locals (.ref a) (.list (xs.map .int)) := .list hl (by
    have : ∀ xs : List Int, RDs B hp env.locals (xs.map .int) (xs.map .int) := fun xs => by
      induction xs with
      | nil => exact .nil
      | cons x xs ih => exact .cons (.int x) ih
    exact this xs)
  obtain ⟨as, ra⟩ := rl.reads r hv
  obtain ⟨bs, rb⟩ := (RD.int (B := B) (hp := hp) (L := env.locals) k).reads r hu'
  have h1 : ∀ xs : List Int, PyData.canLayAll0 (xs.map .int) = true := by
    intro xs; induction xs with
    | nil => rfl
    | cons x xs ih => simp only [List.map_cons, PyData.canLayAll0, ih, Bool.and_true]; rfl
  refine SeqAt.notIn_list_reads ra rb (h1 xs) rfl ?_ ⟨_, hp, r, .refl _, VR_bool, ?_⟩
  · have : min (PyData.depthAll (xs.map .int)) (PyData.int k).depth ≤ (PyData.int k).depth := Nat.min_le_right _ _
    have e : (PyData.int k).depth ≤ 2 := by simp [PyData.depth]
    omega
  · have e : ∀ xs : List Int, (List.map PyData.int xs).any (fun y => y.eqv (PyData.int k)) = xs.contains k := fun xs => by
      induction xs with
      | nil => rfl
      | cons x xs ih =>
        rw [List.map_cons, List.any_cons, List.contains_cons, ih]
        congr 1
        rw [PyData.eqv, Bool.beq_comm]
    rw [e]; exact h
theorem CL_minL {a : Addr} {ns : List Int} {Q : AV → Hp → Prop} (hh : A.handled = none) (hl : Lst B hp env.locals a (ns.map .int)) (hne : ns ≠ []) (h : ∀ k, k ∈ ns → (∀ x ∈ ns, k ≤ x) → Q (.int k) hp) : CL (model prog w) A E B env (.builtin "min") m [.ref a] hp Q := fun s vs r hv => by
  obtain ⟨v, rfl, h1⟩ := VRs_one hv
  simp only [VR] at h1; subst h1
  obtain ⟨us, hlst, hus⟩ := r.lst hl
  obtain ⟨xs, hx, hns⟩ := VRs_ints hus
  have hi : us = intItems xs.toArray := by
    apply Array.toList_inj.mp
    rw [hx]; simp [intItems]
  rw [hi] at hlst
  have hpos : 0 < xs.toArray.size := by
    cases xs with
    | nil => exact absurd hns.symm hne
    | cons _ _ => simp
  refine min_intList hh hlst hpos fun v h' tk hv k => ?_
  obtain ⟨r', le⟩ := r.grown k tk
  obtain ⟨b1, b2⟩ := argBest_lt (numAt xs.toArray) (xs.toArray.size - 1)
  generalize argBest (fun i j => decide (numAt xs.toArray i < numAt xs.toArray j)) (xs.toArray.size - 1) = i0 at *
  have hi0 : i0 < xs.length := by simp at hpos b1; omega
  have num : ∀ j, (hj : j < xs.length) → numAt xs.toArray j = (xs[j]).1 := fun j hj => by simp [numAt, hj]
  have hve : v = .int (xs[i0]).1 (xs[i0]).2 := by
    simp [intItems, hi0] at hv
    exact hv.symm
  subst hve
  refine ⟨.int (xs[i0]).1, hp, r', le, VR_int, h _ ?_ fun y hy => ?_⟩
  · rw [← hns]; exact List.mem_map_of_mem (List.getElem_mem hi0)
  · rw [← hns] at hy
    obtain ⟨p, hp', rfl⟩ := List.mem_map.mp hy
    obtain ⟨j, hj, rfl⟩ := List.getElem_of_mem hp'
    have := b2 j (by simp; omega)
    rw [num i0 hi0, num j hj] at this
    exact this
theorem EV_and2 {e₁ e₂ : Expr} {pos} {Q : AV → Hp → Prop}
    (h : EV (model prog w) A E B env e₁ m hp fun v hp₁ => TRU (model prog w) A E B env m v hp₁ fun c hp₂ => if c then EV (model prog w) A E B env e₂ m hp₂ Q else Q v hp₂) : EV (model prog w) A E B env (.BoolOp .And [e₁, e₂] pos) m hp Q := fun s r => by
  refine BoolOp_and (h.use r fun u s₁ v hp₁ r₁ le₁ hu q => ?_)
  refine wpAny_mono (q s₁ u r₁ hu) (fun c s₂ ⟨hp₂, r₂, le₂, q⟩ => ?_) fun _ _ x => x
  cases c with
  | true =>
    rw [if_pos rfl] at q ⊢
    exact BoolOp_one (wpAny_mono (q s₂ r₂) (fun v s₃ ⟨av, hp₃, r₃, le₃, hv, q⟩ => ⟨av, hp₃, r₃, (le₁.trans le₂).trans le₃, hv, q⟩) fun _ _ x => x)
  | false =>
    rw [if_neg Bool.false_ne_true] at q ⊢
    exact ⟨v, hp₂, r₂, le₁.trans le₂, hu.mono le₂, q⟩
end
end Mine

open PySem PySem.W PyProof.Rows PySem.Calls
set_option maxRecDepth 100000
set_option maxHeartbeats 4000000
namespace Mine
section
variable {prog : Program} {w : World} {A : Around} {E : Value → Shared → Prop} {B : Shared} {env : Env} {m : Loc} {hp : Hp} {K : Frag}
theorem Subscript_SliceT {s : Shared} {value : Expr} {lower upper : Option Expr} {p pos : Pos} {T id : String} {Q : Value → Shared → Prop}
    (hl : typeLookup (.type T) "__getitem__" = pure (some (.builtin id)))
    (h : wpAny (model prog w) A (eval value env) (fun o s₁ => wpAny (model prog w) A (eval (.Slice lower upper none p) env) (fun i s₂ => s₂.TypeIs o T ∧ wpAny (model prog w) A (getItem o i) Q E s₂) E s₁) E s) :
    wpAny (model prog w) A (eval (.Subscript value (.Slice lower upper none p) pos) env) Q E s := by
  rw [eval_Subscript]
  refine wpAny_bind (wpAny_mono h (fun o s₁ h₁ => wpAny_bind (wpAny_holding (wpAny_mono h₁ (fun i s₂ h₂ => wpAny_bind (wpAny_standAt ?_)) fun _ _ x => x))) fun _ _ x => x)
  have fin : wpAny (model prog w) A (operate [i, o] (getItem o i)) (fun r s₃ => wpAny (model prog w) A (letTemporaryGo value o r >>= fun _ => pure r) Q E s₃) E s₂ :=
    wpAny_operating (wpAny_mono h₂.2 (fun r s₃ h₃ => wpAny_bind (wpAny_letTemporaryGo (wpAny_pure h₃))) fun _ _ x => x)
  refine wpAny_bind ?_
  rw [getitemInPython_of_ne h₂.1.not_modules]
  refine wpAny_bind (wpAny_specialOf h₂.1 hl ?_)
  exact wpAny_pure (wpAny_bind fin)
theorem EV_SliceT {value : Expr} {lower upper : Option Expr} {p pos} {Q : AV → Hp → Prop}
    (h : EV (model prog w) A E B env value m hp fun o hp₁ => optE (model prog w) A E B env lower m hp₁ fun lo hp₂ => optE (model prog w) A E B env upper m hp₂ fun hi hp₃ =>
      ∃ a xs kl ku, o = .ref a ∧ Lst B hp₃ env.locals a xs ∧ xs.length ≤ sizeLine ∧ partOf lo = some kl ∧ partOf hi = some ku ∧ ∀ b, hp₃ b = none → b ≠ env.locals → Q (.ref b) (hp₃.set b (.list (pick xs kl ku)))) :
    EV (model prog w) A E B env (.Subscript value (.Slice lower upper none p) pos) m hp Q := fun s r => by
  refine Subscript_SliceT (T := "list") list_getitem_lookup (h.use r fun u s₁ o hp₁ r₁ le₁ hu h₁ => wpAny_Slice (h₁.use r₁ fun vl s₂ lo hp₂ r₂ le₂ hl h₂ => h₂.use r₂ fun vu s₃ hi hp₃ r₃ le₃ hh h₃ => ?_))
  obtain ⟨a, xs, kl, ku, rfl, hls, hsz, pl, pu, q⟩ := h₃
  simp only [VR] at hu; subst hu
  obtain ⟨vs, hlst, hvs⟩ := r₃.lst hls
  have e : vs.size = xs.length := by rw [← Array.length_toList]; exact hvs.length
  rw [evalPart_none]
  refine wpAny_pure ⟨(hlst.push _).typeIs, wpAny_getItem_list_slice (hlst.push _) (Heap.IsSliceOf.new ..) ((hl.mono le₃).part pl) (hh.part pu) .none (by simp) ?_ (by rw [e]; exact hsz)⟩
  have r₄ := r₃.push { cls := .type "slice", data := .fields #[vl, vu, .none] }
  have le₄ : ImmLe s₃.heap (s₃.heap.push { cls := .type "slice", data := .fields #[vl, vu, .none] }) := ImmLe.keep fun b o'' e => Heap.get?_push_of_some _ e
  have n := Rel.newAt r₄ { cls := .type "list", data := .seq (slicePick vs kl ku none) } (.list (pick xs kl ku)) ⟨_, 0, IsL.new _ _, VRs_pick (hvs.mono (le₄.trans (ImmLe.keep fun b o'' e => Heap.get?_push_of_some _ e))) kl ku⟩
  exact ⟨.ref _, _, n.1, ((le₁.trans le₂).trans le₃).trans (le₄.trans n.2.2.2), VR_ref, q _ n.2.1 n.2.2.1⟩
end
end Mine

open PySem PySem.W PyProof.Rows PySem.Calls
set_option maxRecDepth 100000
namespace Mine
def lawS (i : Nat) : Stmt := (dBody (topS PW 8)).getD i (.Pass ⟨0, 0, 0, 0⟩)
def lawW : List Stmt := match lawS 6 with | .While _ b _ _ => b | _ => []
def lawWS (i : Nat) : Stmt := lawW.getD i (.Pass ⟨0, 0, 0, 0⟩)
def lawW1 : List Stmt := match lawWS 1 with | .While _ b _ _ => b | _ => []
def lawT3 : Expr := match lawW1.getD 0 (.Pass ⟨0, 0, 0, 0⟩) with | .Assign [t] _ _ => t | _ => .Constant .none 0 ⟨0, 0, 0, 0⟩
theorem mat_iter (w : World) : findIn (KW w) (.ref 135) "__iter__" = some (some (.builtin "tuple.__iter__")) := by kernel_rfl
theorem mat_tup (w : World) : mroIn (KW w) 135 (.type "tuple") = some true := by kernel_rfl
structure LW (hp : Hp) (L : Addr) (its : List Int) (into : Bool) (aI x dx d j : Addr) (ma : Loc) (kvs : List (Int × AV)) : Prop where
  c2 : hp (L + 2) = some (.cell (some (.bool into)))
  c3 : hp (L + 3) = some (.cell (some (.ref aI)))
  l : hp aI = some (.list (its.map .int))
  lL : aI ≠ L
  I : Ins hp L x dx 242 ma
  F : SMf ma aI aI d j false
  R : B2J hp0 hp L d kvs its
  s : hp j = some (.set (fun _ => false) 0)
  sL : j ≠ L
  n : its.length ≤ 100
theorem LW.le {hp hp' : Hp} {L : Addr} {its : List Int} {into : Bool} {aI x dx d j : Addr} {ma : Loc} {kvs : List (Int × AV)} (W : LW hp L its into aI x dx d j ma kvs) (le : Hp.Le hp hp') : LW hp' L its into aI x dx d j ma kvs :=
  ⟨le _ _ W.c2, le _ _ W.c3, le _ _ W.l, W.lL, ⟨le _ _ W.I.ob, le _ _ W.I.at_, W.I.xL, W.I.dL⟩, W.F, W.R.le le, le _ _ W.s, W.sL, W.n⟩
def nNames : List String := ["i", "j", "size", "place", "most"]
section
variable {w : World} {A : Around} {E : Value → Shared → Prop} {B : Shared} {m : Loc} {hp : Hp}
theorem law_inner {L aI x dx d j : Addr} {ma : Loc} {kvs : List (Int × AV)} {its : List Int} {into : Bool} {p : Nat} (G : Gnd (KW w) B) (hh : A.handled = none) (hroom : A.depth + 4 < recursionLimit) (W : LW hp L its into aI x dx d j ma kvs)
    (h1 : m (S "matcher") = some (.ref x)) (h2 : m (S "p") = some (.int p)) (h3 : m (S "place") = some (.int 0)) (h4 : m (S "most") = some (.int 0)) (hpn : p ≤ its.length) :
    EX (model PW w) A (fun _ _ => False) B (callEnvC fdLaw L 256) (lawWS 1) m hp fun fl m' hp' => fl = .next ∧ hp' = hp ∧ (∀ y, y ∉ nNames → m' (S y) = m (S y)) ∧ ∃ (place : Int) (most : Nat), m' (S "place") = some (.int place) ∧ m' (S "most") = some (.int most) ∧ p + most ≤ its.length ∧
      (most = 0 ∨ (plF its p (p + most : Nat) into).head? = some place) ∧ (p + most < its.length → plF its p (p + most + 1 : Nat) into = []) := by
  conv => arg 6; whnf
  refine EX_While (fun n m₂ hp₂ => hp₂ = hp ∧ (∀ y, y ∉ nNames → m₂ (S y) = m (S y)) ∧ ∃ (place : Int) (most : Nat), n = its.length - (p + most) ∧ m₂ (S "place") = some (.int place) ∧ m₂ (S "most") = some (.int most) ∧ p + most ≤ its.length ∧ (most = 0 ∨ (plF its p (p + most : Nat) into).head? = some place)) (its.length - (p + 0)) ⟨rfl, fun _ _ => rfl, 0, 0, rfl, h3, h4, hpn, .inl rfl⟩ ?_
  rintro n m₂ hp₂ ⟨rfl, x0, place, most, rfl, x1, x2, x3, x4⟩
  have k1 : m₂ (S "matcher") = some (.ref x) := by rw [x0 _ (by decide)]; exact h1
  have k2 : m₂ (S "p") = some (.int p) := by rw [x0 _ (by decide)]; exact h2
  have c2L : L + 2 ≠ L := by simp
  have c3L : L + 3 ≠ L := by simp
  have hn := W.n
  refine TST_Compare1 (EV_BinOp (EV_local k2 (EV_local x2 (OP_add ?_))))
  refine EV_CallB (EV_blt G (no_len w) blt_len (by decide) (fun _ => VR_bi) ⟨rfl, EVS_cons (EV_cell (c := L + 3) rfl W.c3 c3L (EVS_nil (CL_len (.own W.l W.lL) (by rw [List.length_map]; exact sz' (by omega)) (OP_lt (TRU_bool ?_)))))⟩)
  rw [List.length_map]
  by_cases c1 : (p : Int) + (most : Int) < (its.length : Int)
  · rw [decide_eq_true c1, if_pos rfl]
    have go : ∀ b : Best, Longest (MJ its (idxN its)) p (p + most + 1) 0 (if into then p + most else p) b → ASG (model PW w) A (fun _ _ => False) B (callEnvC fdLaw L 256) lawT3 (.mat [.int b.1, .int b.2.1, .int b.2.2]) m₂ hp₂ fun m₃ hp₃ => EXs (model PW w) A (fun _ _ => False) B (callEnvC fdLaw L 256) (lawW1.drop 1) m₃ hp₃ fun fl m₄ hp₄ =>
        match fl with
        | .next | .cont => ∃ n', n' < its.length - (p + most) ∧ hp₄ = hp₂ ∧ (∀ y, y ∉ nNames → m₄ (S y) = m (S y)) ∧ ∃ (place : Int) (most : Nat), n' = its.length - (p + most) ∧ m₄ (S "place") = some (.int place) ∧ m₄ (S "most") = some (.int most) ∧ p + most ≤ its.length ∧ (most = 0 ∨ (plF its p (p + most : Nat) into).head? = some place)
        | .brk => AF.next = AF.next ∧ hp₄ = hp₂ ∧ (∀ y, y ∉ nNames → m₄ (S y) = m (S y)) ∧ ∃ (place : Int) (most : Nat), m₄ (S "place") = some (.int place) ∧ m₄ (S "most") = some (.int most) ∧ p + most ≤ its.length ∧ (most = 0 ∨ (plF its p (p + most : Nat) into).head? = some place) ∧ (p + most < its.length → plF its p (p + most + 1 : Nat) into = [])
        | .ret v => AF.ret v = AF.next ∧ hp₄ = hp₂ ∧ (∀ y, y ∉ nNames → m₄ (S y) = m (S y)) ∧ ∃ (place : Int) (most : Nat), m₄ (S "place") = some (.int place) ∧ m₄ (S "most") = some (.int most) ∧ p + most ≤ its.length ∧ (most = 0 ∨ (plF its p (p + most : Nat) into).head? = some place) ∧ (p + most < its.length → plF its p (p + most + 1 : Nat) into = []) := fun b Lg => by
      obtain ⟨s1, s2⟩ := flm_step (its := its) (into := into) (by omega) Lg
      conv => arg 6; whnf
      refine ASG_TupleM G (mat_iter w) (mat_tup w) hh rfl rfl rfl (ASGS_cons (ASG_Name (ASGS_cons (ASG_Name (ASGS_cons (ASG_Name (ASGS_nil ?_)))))))
      generalize hm3 : upd (upd (upd m₂ _ _) _ _) _ _ = m3
      have y0 : ∀ y, y ∉ nNames → m3 (S y) = m (S y) := fun y hy => by
        subst hm3
        have a1 : y ≠ "i" := fun e => hy (by rw [e]; decide)
        have a2 : y ≠ "j" := fun e => hy (by rw [e]; decide)
        have a3 : y ≠ "size" := fun e => hy (by rw [e]; decide)
        simp only [upd_get, a1, a2, a3, if_false]; exact x0 y hy
      have y1 : m3 (S "i") = some (.int b.1) := by subst hm3; (first | assumption | (simp only [upd_get, String.reduceEq, if_true, if_false]; done) | (simp only [upd_get, String.reduceEq, if_true, if_false]; first | assumption | rfl))
      have y2 : m3 (S "j") = some (.int b.2.1) := by subst hm3; (first | assumption | (simp only [upd_get, String.reduceEq, if_true, if_false]; done) | (simp only [upd_get, String.reduceEq, if_true, if_false]; first | assumption | rfl))
      have y3 : m3 (S "size") = some (.int b.2.2) := by subst hm3; (first | assumption | (simp only [upd_get, String.reduceEq, if_true, if_false]; done) | (simp only [upd_get, String.reduceEq, if_true, if_false]; first | assumption | rfl))
      have y4 : m3 (S "place") = some (.int place) := by subst hm3; (first | assumption | (simp only [upd_get, String.reduceEq, if_true, if_false]; done) | (simp only [upd_get, String.reduceEq, if_true, if_false]; first | assumption | rfl))
      have y5 : m3 (S "most") = some (.int most) := by subst hm3; (first | assumption | (simp only [upd_get, String.reduceEq, if_true, if_false]; done) | (simp only [upd_get, String.reduceEq, if_true, if_false]; first | assumption | rfl))
      have y6 : m3 (S "p") = some (.int p) := by subst hm3; (first | assumption | (simp only [upd_get, String.reduceEq, if_true, if_false]; done) | (simp only [upd_get, String.reduceEq, if_true, if_false]; first | assumption | rfl))
      clear hm3
      conv => arg 6; whnf
      refine EXs_cons (EX_If (TST_Compare1 (EV_local y3 (EV_local y5 (OP_le (TRU_bool ?_))))))
      by_cases c2 : b.2.2 ≤ (most : Int)
      · rw [decide_eq_true c2, if_pos rfl]
        exact EXs_cons (EX_Break ⟨rfl, rfl, y0, place, most, y4, y5, x3, x4, fun _ => s1 c2⟩)
      · rw [decide_eq_false c2, if_neg Bool.false_ne_true]
        obtain ⟨e1, e2, e3⟩ := s2 c2
        refine EXs_nil (EXs_cons (EX_If (TST_BoolOp (ALLT_Or_cons (TST_Compare1 (EV_local y1 (EV_local y6 (OP_ne (TRU_bool ?_)))))))))
        rw [e1, bne_self_eq_false, if_neg Bool.false_ne_true]
        refine ALLT_Or_cons (TST_Compare1 (EV_local y3 (EV_BinOp (EV_local y5 (EV_int (OP_add (OP_ne (TRU_bool ?_))))))))
        rw [e2, bne_self_eq_false, if_neg Bool.false_ne_true]
        refine ALLT_Or_nil ?_
        rw [if_neg Bool.false_ne_true]
        refine EXs_nil (EXs_cons (EX_AssignSw hh (names := [S "place", S "most"]) (EV_Tuple (EVS_cons (EV_local y2 (EVS_cons (EV_local y3 (EVS_nil ⟨sz rfl, _, rfl, rfl, ASGS_bind (ASGS_bind (ASGS_nil ?_))⟩))))))))
        refine EXs_nil ⟨its.length - (p + (most + 1)), by omega, rfl, fun y hy => ?_, b.2.1, most + 1, rfl, by (first | assumption | (simp only [upd_get, String.reduceEq, if_true, if_false]; done) | (simp only [upd_get, String.reduceEq, if_true, if_false]; first | assumption | rfl)), ?_, by omega, .inr ?_⟩
        · have a1 : y ≠ "place" := fun e => hy (by rw [e]; decide)
          have a2 : y ≠ "most" := fun e => hy (by rw [e]; decide)
          simp only [upd_get, a1, a2, if_false]; exact y0 y hy
        · rw [show (((most + 1 : Nat)) : Int) = b.2.2 by omega]; (first | assumption | (simp only [upd_get, String.reduceEq, if_true, if_false]; done) | (simp only [upd_get, String.reduceEq, if_true, if_false]; first | assumption | rfl))
        · rw [show p + (most + 1) = p + most + 1 by omega]; exact e3
    have hno : ma (S "find_longest_match") = none := W.F.no _ (by decide)
    refine EXs_cons (EX_AssignT (EV_meth G (clsS w) (f := 196) (by kernel_rfl) (by kernel_rfl) (by kernel_rfl) (EV_local k1 ⟨x, dx, ma, rfl, W.I, hno, EVS_cons (EV_local k2 (EVS_cons ?_))⟩)))
    refine EV_BinOp (EV_BinOp (EV_local k2 (EV_local x2 (OP_add (EV_int (OP_add (EVS_cons (EV_int (EVS_cons (EV_IfExp (TST_value (EV_cell (c := L + 2) rfl W.c2 c2L (TRU_bool ?_)))))))))))))
    have call : ∀ bhi : Int, bhi = (if into then (p : Int) + most else p) → CL (model PW w) A (fun _ _ => False) B (callEnvC fdLaw L 256) (.ref 196) m₂ [.ref x, .int p, .int (p + most + 1), .int 0, .int bhi] hp₂ (fun v hp₁ => ASG (model PW w) A (fun _ _ => False) B (callEnvC fdLaw L 256) lawT3 v m₂ hp₁ fun m₃ hp₃ => EXs (model PW w) A (fun _ _ => False) B (callEnvC fdLaw L 256) (lawW1.drop 1) m₃ hp₃ fun fl m₄ hp₄ =>
        match fl with
        | .next | .cont => ∃ n', n' < its.length - (p + most) ∧ hp₄ = hp₂ ∧ (∀ y, y ∉ nNames → m₄ (S y) = m (S y)) ∧ ∃ (place : Int) (most : Nat), n' = its.length - (p + most) ∧ m₄ (S "place") = some (.int place) ∧ m₄ (S "most") = some (.int most) ∧ p + most ≤ its.length ∧ (most = 0 ∨ (plF its p (p + most : Nat) into).head? = some place)
        | .brk => AF.next = AF.next ∧ hp₄ = hp₂ ∧ (∀ y, y ∉ nNames → m₄ (S y) = m (S y)) ∧ ∃ (place : Int) (most : Nat), m₄ (S "place") = some (.int place) ∧ m₄ (S "most") = some (.int most) ∧ p + most ≤ its.length ∧ (most = 0 ∨ (plF its p (p + most : Nat) into).head? = some place) ∧ (p + most < its.length → plF its p (p + most + 1 : Nat) into = [])
        | .ret v => AF.ret v = AF.next ∧ hp₄ = hp₂ ∧ (∀ y, y ∉ nNames → m₄ (S y) = m (S y)) ∧ ∃ (place : Int) (most : Nat), m₄ (S "place") = some (.int place) ∧ m₄ (S "most") = some (.int most) ∧ p + most ≤ its.length ∧ (most = 0 ∨ (plF its p (p + most : Nat) into).head? = some place) ∧ (p + most < its.length → plF its p (p + most + 1 : Nat) into = [])) := fun bhi hb => by
      refine CL_flm G hh (by omega) W.I W.F W.R W.s W.sL (.own W.l W.lL) (.own W.l W.lL) (by omega) (by omega) (by omega) (by omega) (Int.le_refl _) ?_ (by omega) (by omega) fun b Lg => ?_
      · rw [hb]; cases into <;> simp <;> omega
      · rw [hb] at Lg
        exact go b Lg
    cases into with
    | true =>
      rw [if_pos rfl]
      exact EV_BinOp (EV_local k2 (EV_local x2 (OP_add (EVS_nil (call _ rfl)))))
    | false =>
      rw [if_neg Bool.false_ne_true]
      exact EV_local k2 (EVS_nil (call _ rfl))
  · rw [decide_eq_false c1, if_neg Bool.false_ne_true]
    exact ⟨rfl, rfl, x0, place, most, x1, x2, x3, x4, fun h => absurd h (by omega)⟩
end
end Mine

open PySem PySem.W PyProof.Rows PySem.Calls
set_option maxRecDepth 100000
namespace Mine
def gNames : List String := ["i", "j", "size", "place", "most", "p", "parts"]
theorem gn {y : String} (h : y ∉ gNames) : y ∉ nNames := fun e => h (by
  simp only [nNames, List.mem_cons, List.not_mem_nil, or_false] at e
  rcases e with rfl | rfl | rfl | rfl | rfl <;> decide)
theorem pick_one {α : Type} (xs : List α) : pick xs none (some 1) = xs.take 1 := by
  unfold pick
  simp only [Option.elim_none, Option.elim_some, List.drop_zero, Nat.sub_zero]
  unfold clipAt
  cases xs with
  | nil => simp
  | cons x xs => congr 1; simp; omega
section
variable {w : World} {A : Around} {E : Value → Shared → Prop} {B : Shared} {m : Loc} {hp : Hp}
theorem law_outer {hb : Hp} {L aI x dx d j sA : Addr} {ma : Loc} {kvs : List (Int × AV)} {its : List Int} {into : Bool} (G : Gnd (KW w) B) (hh : A.handled = none) (hu : A.units + 80 < cLine) (hroom : A.depth + 5 < recursionLimit) (W : LW hb L its into aI x dx d j ma kvs) (hle : Hp.Le hb hp) (hbs : hb sA = none)
    (h1 : m (S "matcher") = some (.ref x)) (h2 : m (S "p") = some (.int 0)) (h3 : m (S "parts") = some (.int 0)) (h4 : m (S "single") = some (.ref sA)) (hs : hp sA = some (.list [])) (hsL : sA ≠ L) :
    EX (model PW w) A (fun _ _ => False) B (callEnvC fdLaw L 256) (lawS 6) m hp fun fl m' hp' => fl = .next ∧ Hp.Le hb hp' ∧ (∀ y, y ∉ gNames → m' (S y) = m (S y)) ∧ ∃ (parts : Int) (single : List Nat), m' (S "parts") = some (.int parts) ∧ hp' sA = some (.list (single.map fun (k : Nat) => .int (k : Int))) ∧ GI its into its.length parts single := by
  conv => arg 6; whnf
  refine EX_While (fun n m₂ hp₂ => Hp.Le hb hp₂ ∧ (∀ y, y ∉ gNames → m₂ (S y) = m (S y)) ∧ ∃ (p : Nat) (parts : Int) (single : List Nat), n = its.length - p ∧ m₂ (S "p") = some (.int p) ∧ m₂ (S "parts") = some (.int parts) ∧ hp₂ sA = some (.list (single.map fun (k : Nat) => .int (k : Int))) ∧ GI its into p parts single) (its.length - 0) ⟨hle, fun _ _ => rfl, 0, 0, [], rfl, h2, h3, hs, .zero _ _⟩ ?_
  rintro n m₂ hp₂ ⟨y0, y1, p, parts, single, rfl, y2, y3, y4, GG⟩
  have W2 := W.le y0
  have c2L : L + 2 ≠ L := by simp
  have c3L : L + 3 ≠ L := by simp
  have hn := W.n
  have hlen : (its.map AV.int).length ≤ sizeLine := by rw [List.length_map]; exact sz' (by omega)
  refine TST_Compare1 (EV_local y2 (EV_CallB (EV_blt G (no_len w) blt_len (by decide) (fun _ => VR_bi) ⟨rfl, EVS_cons (EV_cell (c := L + 3) rfl W2.c3 c3L (EVS_nil (CL_len (.own W2.l W2.lL) hlen (OP_lt (TRU_bool ?_)))))⟩)))
  rw [List.length_map]
  by_cases c1 : (p : Int) < (its.length : Int)
  · rw [decide_eq_true c1, if_pos rfl]
    refine EXs_cons (EX_AssignT (EV_Tuple (EVS_cons (EV_int (EVS_cons (EV_int (EVS_nil ⟨sz rfl, ?_⟩)))))))
    refine ASG_Tuple hh rfl rfl rfl (ASGS_cons (ASG_Name (ASGS_cons (ASG_Name (ASGS_nil ?_)))))
    generalize hm3 : upd (upd m₂ _ _) _ _ = m3
    have z0 : ∀ y, y ∉ gNames → m3 (S y) = m (S y) := fun y hy => by
      subst hm3
      have a1 : y ≠ "place" := fun e => hy (by rw [e]; decide)
      have a2 : y ≠ "most" := fun e => hy (by rw [e]; decide)
      simp only [upd_get, a1, a2, if_false]; exact y1 y hy
    have z1 : m3 (S "place") = some (.int 0) := by subst hm3; (first | assumption | (simp only [upd_get, String.reduceEq, if_true, if_false]; done) | (simp only [upd_get, String.reduceEq, if_true, if_false]; first | assumption | rfl))
    have z2 : m3 (S "most") = some (.int 0) := by subst hm3; (first | assumption | (simp only [upd_get, String.reduceEq, if_true, if_false]; done) | (simp only [upd_get, String.reduceEq, if_true, if_false]; first | assumption | rfl))
    have z3 : m3 (S "p") = some (.int p) := by subst hm3; (first | assumption | (simp only [upd_get, String.reduceEq, if_true, if_false]; done) | (simp only [upd_get, String.reduceEq, if_true, if_false]; first | assumption | rfl))
    have z4 : m3 (S "parts") = some (.int parts) := by subst hm3; (first | assumption | (simp only [upd_get, String.reduceEq, if_true, if_false]; done) | (simp only [upd_get, String.reduceEq, if_true, if_false]; first | assumption | rfl))
    clear hm3
    refine EXs_cons (EX.mono (law_inner (A := A) G hh (by omega) W2 (by rw [z0 _ (by decide)]; exact h1) z3 z1 z2 GG.le) fun fl m4 hp4 q => ?_)
    obtain ⟨rfl, rfl, q0, place, most, q1, q2, q3, q4, q5⟩ := q
    have r0 : ∀ y, y ∉ gNames → m4 (S y) = m (S y) := fun y hy => by rw [q0 y (gn hy)]; exact z0 y hy
    have r1 : m4 (S "p") = some (.int p) := by rw [q0 _ (by decide)]; exact z3
    have r2 : m4 (S "parts") = some (.int parts) := by rw [q0 _ (by decide)]; exact z4
    have r3 : m4 (S "single") = some (.ref sA) := by rw [r0 _ (by decide)]; exact h4
    have hne : most = 0 ∨ plF its p (p + most : Nat) into ≠ [] := q4.imp id fun e e' => by rw [e'] at e; cases e
    have GG' := GG.step (most := most) (by omega) q3 hne q5
    have fin : ∀ hp5, Hp.Le hb hp5 → hp5 sA = some (.list ((single ++ if most = 0 then [p] else []).map fun (k : Nat) => .int (k : Int))) → EXs (model PW w) A (fun _ _ => False) B (callEnvC fdLaw L 256) (lawW.drop 3) m4 hp5 fun fl m₄ hp₄ =>
        match fl with
        | .next | .cont => ∃ n', n' < its.length - p ∧ Hp.Le hb hp₄ ∧ (∀ y, y ∉ gNames → m₄ (S y) = m (S y)) ∧ ∃ (p : Nat) (parts : Int) (single : List Nat), n' = its.length - p ∧ m₄ (S "p") = some (.int p) ∧ m₄ (S "parts") = some (.int parts) ∧ hp₄ sA = some (.list (single.map fun (k : Nat) => .int (k : Int))) ∧ GI its into p parts single
        | .brk => AF.next = AF.next ∧ Hp.Le hb hp₄ ∧ (∀ y, y ∉ gNames → m₄ (S y) = m (S y)) ∧ ∃ (parts : Int) (single : List Nat), m₄ (S "parts") = some (.int parts) ∧ hp₄ sA = some (.list (single.map fun (k : Nat) => .int (k : Int))) ∧ GI its into its.length parts single
        | .ret v => AF.ret v = AF.next ∧ Hp.Le hb hp₄ ∧ (∀ y, y ∉ gNames → m₄ (S y) = m (S y)) ∧ ∃ (parts : Int) (single : List Nat), m₄ (S "parts") = some (.int parts) ∧ hp₄ sA = some (.list (single.map fun (k : Nat) => .int (k : Int))) ∧ GI its into its.length parts single := fun hp5 g0 g1 => by
      conv => arg 6; whnf
      refine EXs_cons (EX_AugAssign r1 (EV_CallB (EV_blt G (no_max w) blt_max (by decide) (fun _ => VR_bi) ⟨rfl, EVS_cons (EV_local q2 (EVS_cons (EV_int (EVS_nil (CL_max hh (OP_iadd ?_))))))⟩)))
      refine EXs_cons (EX_AugAssign (v := .int parts) (by (first | assumption | (simp only [upd_get, String.reduceEq, if_true, if_false]; done) | (simp only [upd_get, String.reduceEq, if_true, if_false]; first | assumption | rfl))) (EV_int (OP_iadd ?_)))
      refine EXs_nil ⟨its.length - (p + max most 1), by omega, g0, fun y hy => ?_, p + max most 1, parts + 1, _, rfl, ?_, by (first | assumption | (simp only [upd_get, String.reduceEq, if_true, if_false]; done) | (simp only [upd_get, String.reduceEq, if_true, if_false]; first | assumption | rfl)), g1, GG'⟩
      · have a1 : y ≠ "p" := fun e => hy (by rw [e]; decide)
        have a2 : y ≠ "parts" := fun e => hy (by rw [e]; decide)
        simp only [upd_get, a1, a2, if_false]; exact r0 y hy
      · have e : (((p + max most 1 : Nat)) : Int) = (p : Int) + (if (1 : Int) > (most : Int) then 1 else (most : Int)) := by split <;> omega
        rw [e]; (first | assumption | (simp only [upd_get, String.reduceEq, if_true, if_false]; done) | (simp only [upd_get, String.reduceEq, if_true, if_false]; first | assumption | rfl))
    refine EXs_cons (EX_If (TST_Compare1 (EV_local q2 (EV_int (OP_eq (TRU_bool ?_))))))
    by_cases c2 : most = 0
    · have e : ((most : Int) == 0) = true := by rw [c2]; rfl
      rw [e, if_pos rfl]
      have hsl : single.length ≤ 900 := by
        have := congrArg List.length GG.sg
        rw [this, news]
        exact Nat.le_trans (List.length_filter_le _ _) (by rw [List.length_range]; omega)
      refine EXs_cons (EX_Expr (EV_append (EV_local r3 ⟨sA, _, rfl, y4, hsL, EVS_cons (EV_local r1 (EVS_nil ⟨_, _, rfl, y4, by rw [List.length_map]; exact sz' (by omega), ?_⟩))⟩)))
      refine ⟨by simp, by simp, by simp, EXs_nil ?_⟩
      refine fin _ (y0.set hbs _) ?_
      rw [Hp.set_same, if_pos c2, List.map_append]; rfl
    · have e : ((most : Int) == 0) = false := by rw [beq_eq_false_iff_ne]; omega
      rw [e, if_neg Bool.false_ne_true]
      have hd : (plF its p (p + most : Nat) into).head? = some place := q4.resolve_left c2
      refine EXs_cons (EX_If (TST_Compare1 (EV_List (EVS_cons (EV_local q1 (EVS_nil ⟨sz rfl, fun e1 he1 he1L => ?_⟩))))))
      have le1 : Hp.Le hp4 (hp4.set e1 (.list [.int place])) := (Hp.Le.refl _).set he1 _
      have W3 := W2.le le1
      refine EV_SliceT (EV_CallF G (kPlaces w) rfl (EV_glob G (g_places w) (fun _ => VR_ref) ⟨rfl, EVS_cons (EV_cell (c := L + 3) rfl W3.c3 c3L (EVS_cons (EV_local r1 (EVS_cons (EV_BinOp (EV_local r1 (EV_local q2 (OP_add (EVS_cons (EV_cell (c := L + 2) rfl W3.c2 c2L (EVS_nil ?_)))))))))))⟩))
      refine CL_places G hh (by omega) (by omega) (.own W3.l W3.lL) (by omega) (by omega) (by omega) (by omega) (by omega) fun acc hac hacL => ?_
      have le2 : Hp.Le hp4 ((hp4.set e1 (.list [.int place])).set acc (.list ((plF its p (p + most : Int) into).map .int))) := le1.set (le1.none hac) _
      have hple : (plF its p (p + most : Int) into).length ≤ 900 := by
        unfold plF; rw [List.length_map]
        exact Nat.le_trans (List.length_filter_le _ _) (by rw [List.length_range]; omega)
      refine EV_int ⟨acc, _, _, _, rfl, .own (Hp.set_same ..) hacL, by rw [List.length_map]; exact sz' (by omega), rfl, rfl, fun b2 hb2 hb2L => ?_⟩
      have hn1 : e1 ≠ acc := Hp.ne_of (Hp.set_same ..) hac
      have hn2 : e1 ≠ b2 := Hp.ne_of (show ((hp4.set e1 (.list [.int place])).set acc _) e1 = some (.list [.int place]) by rw [Hp.set_ne _ _ hn1]; exact Hp.set_same ..) hb2
      rw [pick_map, pick_one]
      have hk : (plF its p (p + most : Int) into).take 1 = [place] := by
        have hd' : (plF its p (p + most : Int) into).head? = some place := hd
        cases hq : plF its p (p + most : Int) into with
        | nil => rw [hq] at hd'; cases hd'
        | cons a l => rw [hq] at hd'; cases hd'; rfl
      rw [hk]
      refine OP_neD (.list (xs := [.int place]) (ds := [PyData.int place]) (.own (by rw [Hp.set_ne _ _ hn2, Hp.set_ne _ _ hn1]; exact Hp.set_same ..) he1L) (.cons (.int _) .nil)) (.list (.own (Hp.set_same ..) hb2L) (RDs_ints [place])) (shaped_ints [place]) (shaped_ints [place]) (by omega) (TRU_bool ?_)
      rw [show (!(PyData.list [PyData.int place]).eqv (.list ([place].map .int))) = false by rw [show [PyData.int place] = [place].map PyData.int from rfl, eqv_ints]; simp, if_neg Bool.false_ne_true]
      have hs1 : hp4 sA = some (.list (single.map fun (k : Nat) => .int (k : Int))) := y4
      refine EXs_nil (EXs_nil (fin _ ?_ ?_))
      · exact (y0.trans le2).set ((y0.trans le2).none hb2) _
      · rw [if_neg c2, List.append_nil, Hp.set_ne _ _ (Hp.ne_of (le2 _ _ hs1) hb2)]
        exact le2 _ _ hs1
  · rw [decide_eq_false c1, if_neg Bool.false_ne_true]
    have : p = its.length := by have := GG.le; omega
    subst this
    exact ⟨rfl, y0, y1, parts, single, y3, y4, GG⟩
end
end Mine

open PySem PySem.W PyProof.Rows PySem.Calls
set_option maxRecDepth 100000
namespace Mine
structure FP (its : List Int) (into : Bool) (fs : List Int) : Prop where
  zero : fs.getD 0 0 = 0
  some : ∀ q, 1 ≤ q → q < fs.length → ∃ k, k < q ∧ alw its into k q ∧ fs.getD q 0 = 1 + fs.getD k 0
  least : ∀ q, 1 ≤ q → q < fs.length → ∀ k, k < q → alw its into k q → fs.getD q 0 ≤ 1 + fs.getD k 0
theorem FP.one (its : List Int) (into : Bool) : FP its into [0] := ⟨rfl, fun q h1 h2 => by simp at h2; omega, fun q h1 h2 => by simp at h2; omega⟩
theorem FP.fw {its : List Int} {into : Bool} {fs : List Int} (h : FP its into fs) (hl : fs.length = its.length + 1) : FW its into (fun q => fs.getD q 0) :=
  ⟨h.zero, fun q h1 h2 => h.some q h1 (by omega), fun q h1 h2 => h.least q h1 (by omega)⟩
def cutB (its : List Int) (into : Bool) (q k : Nat) : Bool := decide (k + 1 = q) || !decide (plF its k q into = [])
theorem cutB_iff {its : List Int} {into : Bool} {q k : Nat} : cutB its into q k = true ↔ alw its into k q := by unfold cutB alw; simp
def cutL (its : List Int) (into : Bool) (q : Nat) : List Nat := (List.range q).filter (cutB its into q)
theorem FP.snoc {its : List Int} {into : Bool} {fs : List Int} (h : FP its into fs) (hl : 1 ≤ fs.length) {v : Int} (h1 : v ∈ (cutL its into fs.length).map fun k => fs.getD k 0) (h2 : ∀ x ∈ (cutL its into fs.length).map fun k => fs.getD k 0, v ≤ x) : FP its into (fs ++ [1 + v]) := by
  have old : ∀ q, q < fs.length → (fs ++ [1 + v]).getD q 0 = fs.getD q 0 := fun q hq => by simp [List.getD_eq_getElem?_getD, List.getElem?_append_left hq]
  have new : (fs ++ [1 + v]).getD fs.length 0 = 1 + v := by simp [List.getD_eq_getElem?_getD]
  refine ⟨by rw [old 0 (by omega)]; exact h.zero, fun q q1 q2 => ?_, fun q q1 q2 k hk ha => ?_⟩
  · by_cases hq : q < fs.length
    · obtain ⟨k, a, b, c⟩ := h.some q q1 hq
      exact ⟨k, a, b, by rw [old q hq, old k (by omega)]; exact c⟩
    · have : q = fs.length := by simp at q2; omega
      subst this
      obtain ⟨k, hk, e⟩ := List.mem_map.mp h1
      rw [cutL, List.mem_filter, List.mem_range] at hk
      exact ⟨k, hk.1, cutB_iff.mp hk.2, by rw [new, old k hk.1, ← e]⟩
  · by_cases hq : q < fs.length
    · rw [old q hq, old k (by omega)]; exact h.least q q1 hq k hk ha
    · have : q = fs.length := by simp at q2; omega
      subst this
      rw [new, old k hk]
      have := h2 (fs.getD k 0) (List.mem_map.mpr ⟨k, by rw [cutL, List.mem_filter, List.mem_range]; exact ⟨hk, cutB_iff.mpr ha⟩, rfl⟩)
      omega
def fB : List Stmt := match lawS 8 with | .For _ _ b _ _ => b | _ => []
section
variable {w : World} {A : Around} {E : Value → Shared → Prop} {B : Shared} {m : Loc} {hp : Hp}
theorem few_turn {hb : Hp} {L aI x dx d j fA : Addr} {ma : Loc} {kvs : List (Int × AV)} {its fs : List Int} {into : Bool} {Q : AF → Loc → Hp → Prop} (G : Gnd (KW w) B) (hh : A.handled = none) (hu : A.units + 80 < cLine) (hroom : A.depth + 5 < recursionLimit) (W : LW hp L its into aI x dx d j ma kvs)
    (h4 : hp (L + 4) = some (.cell (some (.ref fA)))) (h5 : hp (L + 5) = some (.cell (some (.int fs.length)))) (hf : hp fA = some (.list (fs.map .int))) (hfL : fA ≠ L) (hl : 1 ≤ fs.length) (hl2 : fs.length ≤ its.length)
    (h : ∀ m' hp' v, (∀ y, y ≠ "cuts" → m' (S y) = m (S y)) → (∀ z o, z ≠ fA → hp z = some o → hp' z = some o) → hp' fA = some (.list ((fs ++ [1 + v]).map .int)) → v ∈ ((cutL its into fs.length).map fun k => fs.getD k 0) → (∀ x ∈ (cutL its into fs.length).map fun k => fs.getD k 0, v ≤ x) → Q .next m' hp') :
    EXs (model PW w) A (fun _ _ => False) B (callEnvC fdLaw L 256) fB m hp Q := by
  have c2L : L + 2 ≠ L := by simp
  have c3L : L + 3 ≠ L := by simp
  have c4L : L + 4 ≠ L := by simp
  have c5L : L + 5 ≠ L := by simp
  have hn := W.n
  conv => arg 6; whnf
  refine EXs_cons (EX_AssignCompRP (p := cutB its into fs.length) (e := fun i => .int (i : Int)) (cl := [(S "q", L + 5), (S "items", L + 3), (S "into", L + 2)]) hh rfl (by decide) (by decide) (fun _ => rfl) ?_)
  refine EV_CallT (EV_blt G (no_range w) blt_range (by decide) (fun _ => VR_ty) ⟨rfl, EVS_cons (EV_cell (c := L + 5) rfl h5 c5L (EVS_nil (CL_range1 fun r ob hr hrL ro => ?_)))⟩)
  refine ⟨r, ob, 0, fs.length, rfl, Hp.set_same .., hrL, ro, by decide, by decide, by omega, by omega, by omega, fun C m₂ hp₃ i hi hC hCL hle3 hm₂ => ?_, fun acc hacc haccL => ?_⟩
  · have fromL : ∀ z o, z ≠ L → hp z = some o → hp₃ z = some o := fun z o hz e => hle3 z o (by rw [show (callEnvC fdLaw L 256).locals = L from rfl, Hp.set_ne _ _ hz, Hp.set_ne _ _ (Hp.ne_of e hr)]; exact e)
    have neC : ∀ z o, hp z = some o → z ≠ C := fun z o e => Hp.ne_of (show (hp.set r (.obj ob)) z = some o by rw [Hp.set_ne _ _ (Hp.ne_of e hr)]; exact e) hC
    have e2 := fromL _ _ c2L W.c2
    have e3 := fromL _ _ c3L W.c3
    have e5 := fromL _ _ c5L h5
    have el := fromL _ _ W.lL W.l
    have n2 := neC _ _ W.c2
    have n3 := neC _ _ W.c3
    have n5 := neC _ _ h5
    have nl := neC _ _ W.l
    have hj : m₂ (S "k") = some (.int (i : Int)) := by rw [hm₂]; simp
    have hi' : i < fs.length := by omega
    refine TSTs_one (TST_BoolOp (ALLT_Or_cons (TST_Compare1 (EV_BinOp (EV_local hj (EV_int (OP_add (EV_cell (c := L + 5) rfl e5 n5 (OP_eq (TRU_bool ?_))))))))))
    by_cases c1 : i + 1 = fs.length
    · have e : ((i : Int) + 1 == (fs.length : Int)) = true := by rw [beq_iff_eq]; omega
      rw [e, if_pos rfl]
      exact ⟨by unfold cutB; rw [decide_eq_true c1]; rfl, .refl _, fun _ => EV_local hj ⟨rfl, .refl _⟩⟩
    · have e : ((i : Int) + 1 == (fs.length : Int)) = false := by rw [beq_eq_false_iff_ne]; omega
      rw [e, if_neg Bool.false_ne_true]
      refine ALLT_Or_cons (TST_Compare1 (EV_CallF G (kPlaces w) rfl (EV_glob G (g_places w) (fun _ => VR_ref) ⟨rfl, EVS_cons (EV_cell (c := L + 3) rfl e3 n3 (EVS_cons (EV_local hj (EVS_cons (EV_cell (c := L + 5) rfl e5 n5 (EVS_cons (EV_cell (c := L + 2) rfl e2 n2 (EVS_nil ?_))))))))⟩)))
      refine CL_places G hh (by omega) (by omega) (.own el nl) (by omega) (by omega) (by omega) (by omega) (by omega) fun acc hac hacL => ?_
      have le1 : Hp.Le hp₃ (hp₃.set acc (.list ((plF its i fs.length into).map .int))) := (Hp.Le.refl _).set hac _
      refine EV_List (EVS_nil ⟨Nat.zero_le _, fun b2 hb2 hb2L => ?_⟩)
      have le2 := le1.set (le1.none hb2) (.list [])
      have hab : acc ≠ b2 := Hp.ne_of (Hp.set_same ..) hb2
      refine OP_neD (.list (.own (show _ = some (AO.list ((plF its i fs.length into).map .int)) by rw [Hp.set_ne _ _ hab]; exact Hp.set_same ..) hacL) (RDs_ints _)) (.list (.own (Hp.set_same ..) hb2L) (RDs_ints [])) (shaped_ints _) (shaped_ints []) (by omega) (TRU_bool ?_)
      rw [eqv_ints]
      have hc : cutB its into fs.length i = !decide (plF its i fs.length into = []) := by unfold cutB; rw [decide_eq_false c1]; rfl
      cases hb : (!decide (plF its i fs.length into = [])) with
      | true => rw [if_pos rfl]; exact ⟨by rw [hc, hb], le2, fun _ => EV_local hj ⟨rfl, .refl _⟩⟩
      | false => rw [if_neg Bool.false_ne_true]; exact ALLT_Or_nil ⟨by rw [hc, hb], le2, fun e => by cases e⟩
  · have hcl : ((List.range ((fs.length : Int) - 0).toNat).filter (cutB its into fs.length)).map (fun (i : Nat) => AV.int (i : Int)) = (cutL its into fs.length).map (fun (i : Nat) => AV.int (i : Int)) := by unfold cutL; rw [Int.sub_zero, Int.toNat_natCast]
    rw [hcl]
    have le1 : Hp.Le hp (hp.set r (.obj ob)) := (Hp.Le.refl _).set hr _
    have le2 : Hp.Le hp ((hp.set r (.obj ob)).set acc (.list ((cutL its into fs.length).map (fun (i : Nat) => AV.int (i : Int))))) := le1.set (le1.none hacc) _
    have hac2 : ((hp.set r (.obj ob)).set acc (.list ((cutL its into fs.length).map (fun (i : Nat) => AV.int (i : Int))))) acc = some (.list ((cutL its into fs.length).map (fun (i : Nat) => AV.int (i : Int)))) := Hp.set_same ..
    generalize (hp.set r (.obj ob)).set acc (.list ((cutL its into fs.length).map (fun (i : Nat) => AV.int (i : Int)))) = hp2 at le2 hac2 ⊢
    have hm1 : upd m (S "cuts") (.ref acc) (S "cuts") = some (.ref acc) := by (first | assumption | (simp only [upd_get, String.reduceEq, if_true, if_false]; done) | (simp only [upd_get, String.reduceEq, if_true, if_false]; first | assumption | rfl))
    have hlen : (cutL its into fs.length).length ≤ 900 := Nat.le_trans (List.length_filter_le _ _) (by rw [List.length_range]; omega)
    refine EXs_cons (EX_Expr (EV_append (EV_cell (c := L + 4) rfl (le2 _ _ h4) c4L ⟨fA, _, rfl, le2 _ _ hf, hfL, EVS_cons (EV_BinOp (EV_int (EV_CallB (EV_blt G (no_min w) blt_min (by decide) (fun _ => VR_bi) ⟨rfl, EVS_cons ?_⟩))))⟩)))
    refine EV_CompLP (e := fun v => match v with | .int k => .int (fs.getD k.toNat 0) | _ => .none) (cl := [(S "fewest", L + 4)]) hh rfl (by decide) (by decide) (fun _ => rfl) (EV_local hm1 ⟨acc, _, rfl, .own hac2 haccL, by rw [List.length_map]; omega, fun C m₂ hp₃ v hv hC hCL hle3 hm₂ => ?_, fun a2 ha2 ha2L => ?_⟩)
    · obtain ⟨k, hk, rfl⟩ := List.mem_map.mp hv
      rw [cutL, List.mem_filter, List.mem_range] at hk
      have fromL : ∀ z o, z ≠ L → hp2 z = some o → hp₃ z = some o := fun z o hz e => hle3 z o (by rw [show (callEnvC fdLaw L 256).locals = L from rfl, Hp.set_ne _ _ hz]; exact e)
      have neC : ∀ z o, hp2 z = some o → z ≠ C := fun z o e => Hp.ne_of e hC
      have e4 := fromL _ _ c4L (le2 _ _ h4)
      have n4 := neC _ _ (le2 _ _ h4)
      have ef := fromL _ _ hfL (le2 _ _ hf)
      have nf := neC _ _ (le2 _ _ hf)
      refine EV_Subscript (EV_cell (c := L + 4) rfl e4 n4 (EV_local hm₂ (SUB_list (.own ef nf) (by omega) (by omega) (x := .int (fs.getD k 0)) ?_ ⟨rfl, .refl _⟩)))
      have hk1 := hk.1
      simp [List.getD, List.getElem?_eq_getElem hk1]
    · have hmm : ((cutL its into fs.length).map (fun (i : Nat) => AV.int (i : Int))).map (fun v => match v with | .int k => AV.int (fs.getD k.toNat 0) | _ => .none) = (((cutL its into fs.length).map fun k => fs.getD k 0)).map .int := by
        rw [List.map_map, List.map_map]
        apply List.map_congr_left
        intro k _
        simp
      rw [hmm]
      have hne : ((cutL its into fs.length).map fun k => fs.getD k 0) ≠ [] := by
        intro e
        have hmem : fs.length - 1 ∈ cutL its into fs.length := by
          rw [cutL, List.mem_filter, List.mem_range]
          exact ⟨by omega, by unfold cutB; rw [decide_eq_true (by omega)]; rfl⟩
        have := List.mem_map_of_mem (f := fun k => fs.getD k 0) hmem
        rw [e] at this; cases this
      refine EVS_nil (CL_minL hh (.own (Hp.set_same ..) ha2L) hne fun v v1 v2 => OP_add (EVS_nil ⟨fs.map .int, _, rfl, ?_, by rw [List.length_map]; exact sz' (by omega), ?_⟩))
      · rw [Hp.set_ne _ _ (Hp.ne_of (le2 _ _ hf) ha2)]; exact le2 _ _ hf
      · refine ⟨by simp, by simp, by simp, EXs_nil (h _ _ v (fun y hy => ?_) (fun z o hz e => ?_) ?_ v1 v2)⟩
        · simp only [upd_get, hy, if_false]
        · rw [Hp.set_ne _ _ hz, Hp.set_ne _ _ (Hp.ne_of (le2 _ _ e) ha2)]; exact le2 _ _ e
        · rw [Hp.set_same, List.map_append]; rfl
end
end Mine

open PySem PySem.W PyProof.Rows PySem.Calls
set_option maxRecDepth 100000
namespace Mine
section
variable {w : World} {A : Around} {E : Value → Shared → Prop} {B : Shared} {m : Loc} {hp : Hp}
theorem law_ret {hb : Hp} {L aI x dx d j fA sA : Addr} {ma : Loc} {kvs : List (Int × AV)} {its fs : List Int} {into : Bool} {parts : Int} {single : List Nat} {Q : AF → Loc → Hp → Prop} (G : Gnd (KW w) B) (hh : A.handled = none) (hu : A.units + 80 < cLine) (W : LW hp L its into aI x dx d j ma kvs)
    (h4 : hp (L + 4) = some (.cell (some (.ref fA)))) (hf : hp fA = some (.list (fs.map .int))) (hfL : fA ≠ L) (hs : hp sA = some (.list (single.map fun (k : Nat) => .int (k : Int)))) (hsL : sA ≠ L) (hm1 : m (S "single") = some (.ref sA)) (hm2 : m (S "parts") = some (.int parts))
    (hsg : single = news its its.length) (hpt : fs.getD its.length 0 = parts) (hfl : fs.length = its.length + 1) (hq : ∀ hp', Hp.Le hp hp' → Q (.ret (.bool true)) m hp') :
    EXs (model PW w) A (fun _ _ => False) B (callEnvC fdLaw L 256) [lawS 9] m hp Q := by
  have c3L : L + 3 ≠ L := by simp
  have c4L : L + 4 ≠ L := by simp
  have hn := W.n
  have hlen : (its.map AV.int).length ≤ sizeLine := by rw [List.length_map]; exact sz' (by omega)
  conv => arg 6; whnf
  refine EXs_cons (EX_Return (EV_and2 (EV_Compare1 (EV_local hm1 ?_))))
  refine EV_CompRP (p := newB its) (e := fun i => .int (i : Int)) (cl := [(S "items", L + 3)]) hh rfl (by decide) (by decide) (fun _ => rfl) ?_
  refine EV_CallT (EV_blt G (no_range w) blt_range (by decide) (fun _ => VR_ty) ⟨rfl, EVS_cons (EV_CallB (EV_blt G (no_len w) blt_len (by decide) (fun _ => VR_bi) ⟨rfl, EVS_cons (EV_cell (c := L + 3) rfl W.c3 c3L (EVS_nil (CL_len (.own W.l W.lL) hlen (EVS_nil (CL_range1 fun r ob hr hrL ro => ?_)))))⟩))⟩)
  rw [List.length_map] at ro
  refine ⟨r, ob, 0, its.length, rfl, Hp.set_same .., hrL, ro, by decide, by decide, by omega, by omega, by omega, fun C m₂ hp₃ i hi hC hCL hle3 hm₂ => ?_, fun acc hacc haccL => ?_⟩
  · have fromL : ∀ z o, z ≠ L → hp z = some o → hp₃ z = some o := fun z o hz e => hle3 z o (by rw [show (callEnvC fdLaw L 256).locals = L from rfl, Hp.set_ne _ _ hz, Hp.set_ne _ _ (Hp.ne_of e hr)]; exact e)
    have neC : ∀ z o, hp z = some o → z ≠ C := fun z o e => Hp.ne_of (show (hp.set r (.obj ob)) z = some o by rw [Hp.set_ne _ _ (Hp.ne_of e hr)]; exact e) hC
    have e3 := fromL _ _ c3L W.c3
    have el := fromL _ _ W.lL W.l
    have n3 := neC _ _ W.c3
    have nl := neC _ _ W.l
    have hj : m₂ (S "k") = some (.int (i : Int)) := by rw [hm₂]; simp
    have hi' : i < its.length := by omega
    have hx : (its.map AV.int)[((i : Int)).toNat]? = some (.int (its.getD i 0)) := by simp [List.getD, List.getElem?_eq_getElem hi']
    refine TSTs_one (TST_Compare1 (EV_Subscript (EV_cell (c := L + 3) rfl e3 n3 (EV_local hj (SUB_list (.own el nl) (by omega) (by omega) hx ?_)))))
    refine EV_Slice (EV_cell (c := L + 3) rfl e3 n3 ?_)
    show EV _ _ _ _ _ _ _ _ _
    refine EV_local hj ⟨aI, _, _, _, rfl, .own el nl, hlen, rfl, rfl, fun b1 hb1 hb1L => ?_⟩
    have hpk : pick (its.map AV.int) none (some (i : Int)) = (its.take i).map AV.int := by
      rw [pick_map]
      congr 1
      unfold pick
      simp only [Option.elim_none, Option.elim_some, List.drop_zero, Nat.sub_zero]
      congr 1
      unfold clipAt
      split <;> omega
    rw [hpk]
    refine OP_notinI (.own (Hp.set_same ..) hb1L) (by omega) (TRU_bool ?_)
    exact ⟨rfl, (Hp.Le.refl _).set hb1 _, fun _ => EV_local hj ⟨rfl, .refl _⟩⟩
  · have hcl : ((List.range ((its.length : Int) - 0).toNat).filter (newB its)).map (fun (i : Nat) => AV.int (i : Int)) = single.map (fun (i : Nat) => AV.int (i : Int)) := by rw [hsg, news, Int.sub_zero, Int.toNat_natCast]
    rw [hcl]
    have le1 : Hp.Le hp (hp.set r (.obj ob)) := (Hp.Le.refl _).set hr _
    have le2 : Hp.Le hp ((hp.set r (.obj ob)).set acc (.list (single.map (fun (i : Nat) => AV.int (i : Int))))) := le1.set (le1.none hacc) _
    have hac2 : ((hp.set r (.obj ob)).set acc (.list (single.map (fun (i : Nat) => AV.int (i : Int))))) acc = some (.list (single.map (fun (i : Nat) => AV.int (i : Int)))) := Hp.set_same ..
    generalize (hp.set r (.obj ob)).set acc (.list (single.map (fun (i : Nat) => AV.int (i : Int)))) = hp2 at le2 hac2 ⊢
    have hmm : single.map (fun (i : Nat) => AV.int (i : Int)) = (single.map fun (i : Nat) => (i : Int)).map AV.int := by rw [List.map_map]; rfl
    rw [hmm] at hac2
    have hs2 := le2 _ _ hs
    rw [hmm] at hs2
    refine OP_eqD (.list (.own hs2 hsL) (RDs_ints _)) (.list (.own hac2 haccL) (RDs_ints _)) (shaped_ints _) (shaped_ints _) (by omega) (TRU_bool ?_)
    rw [eqv_ints, decide_eq_true rfl, if_pos rfl]
    refine EV_Compare1 (EV_local hm2 (EV_Subscript (EV_cell (c := L + 4) rfl (le2 _ _ h4) c4L (EV_neg (EV_int ⟨_, rfl, SUB_listNeg (x := .int parts) (.own (le2 _ _ hf) hfL) (by decide) (by decide) ?_ ?_ (OP_eq ?_)⟩)))))
    · rw [List.length_map]; omega
    · have : (-1 + ((fs.map AV.int).length : Int)).toNat = its.length := by rw [List.length_map]; omega
      rw [this, ← hpt]
      simp [List.getD, List.getElem?_eq_getElem (show its.length < fs.length by omega)]
    · rw [beq_self_eq_true]; exact hq _ le2
end
end Mine

open PySem PySem.W PyProof.Rows PySem.Calls
set_option maxRecDepth 100000
namespace Mine
section
variable {w : World} {A : Around} {E : Value → Shared → Prop} {B : Shared} {m : Loc} {hp : Hp}
theorem law_end {hb : Hp} {L aI x dx d j sA : Addr} {ma : Loc} {kvs : List (Int × AV)} {its : List Int} {into : Bool} {parts : Int} {single : List Nat} {v4 v5 : Option AV} {Q : AF → Loc → Hp → Prop} (G : Gnd (KW w) B) (hh : A.handled = none) (hu : A.units + 80 < cLine) (hroom : A.depth + 5 < recursionLimit) (W : LW hb L its into aI x dx d j ma kvs)
    (hle : Hp.Le hb hp) (b4 : hb (L + 4) = none) (b5 : hb (L + 5) = none) (h4 : hp (L + 4) = some (.cell v4)) (h5 : hp (L + 5) = some (.cell v5)) (hs : hb sA = some (.list (single.map fun (k : Nat) => .int (k : Int)))) (hsL : sA ≠ L)
    (hm1 : m (S "single") = some (.ref sA)) (hm2 : m (S "parts") = some (.int parts)) (GG : GI its into its.length parts single) (hq : ∀ m' hp', Hp.Le hb hp' → Q (.ret (.bool true)) m' hp') :
    EXs (model PW w) A (fun _ _ => False) B (callEnvC fdLaw L 256) [lawS 7, lawS 8, lawS 9] m hp Q := by
  have c3L : L + 3 ≠ L := by simp
  have c4L : L + 4 ≠ L := by simp
  have c5L : L + 5 ≠ L := by simp
  have hn := W.n
  have hlen : (its.map AV.int).length ≤ sizeLine := by rw [List.length_map]; exact sz' (by omega)
  refine EXs_cons ?_
  conv => arg 6; whnf
  refine EX_AssignC (c := L + 4) rfl c4L (EV_List (EVS_cons (EV_int (EVS_nil ⟨sz rfl, fun fA hfA hfL => ?_⟩))))
  have f4 : L + 4 ≠ fA := Hp.ne_of h4 hfA
  have f5 : L + 5 ≠ fA := Hp.ne_of h5 hfA
  have bf : hb fA = none := hle.none hfA
  refine ⟨v4, by rw [Hp.set_ne _ _ f4]; exact h4, ?_⟩
  have le1 : Hp.Le hb ((hp.set fA (.list [.int 0])).set (L + 4) (.cell (some (.ref fA)))) := (hle.set bf _).set b4 _
  have g4 : ((hp.set fA (.list [.int 0])).set (L + 4) (.cell (some (.ref fA)))) (L + 4) = some (.cell (some (.ref fA))) := Hp.set_same ..
  have g5 : ((hp.set fA (.list [.int 0])).set (L + 4) (.cell (some (.ref fA)))) (L + 5) = some (.cell v5) := by rw [Hp.set_ne _ _ (by simp), Hp.set_ne _ _ f5]; exact h5
  have gf : ((hp.set fA (.list [.int 0])).set (L + 4) (.cell (some (.ref fA)))) fA = some (.list [.int 0]) := by rw [Hp.set_ne _ _ (Ne.symm f4)]; exact Hp.set_same ..
  generalize (hp.set fA (.list [.int 0])).set (L + 4) (.cell (some (.ref fA))) = hp1 at le1 g4 g5 gf ⊢
  have W1 := W.le le1
  refine EXs_cons ?_
  conv => arg 6; whnf
  refine EX_ForR hh (EV_CallT (EV_blt G (no_range w) blt_range (by decide) (fun _ => VR_ty) ⟨rfl, EVS_cons (EV_int (EVS_cons (EV_BinOp (EV_CallB (EV_blt G (no_len w) blt_len (by decide) (fun _ => VR_bi) ⟨rfl, EVS_cons (EV_cell (c := L + 3) rfl W1.c3 c3L (EVS_nil (CL_len (.own W1.l W1.lL) hlen (EV_int (OP_add (EVS_nil (CL_range2 fun r ob hr hrL ro => ?_)))))))⟩)))))⟩))
  rw [List.length_map] at ro
  refine ⟨r, ob, 1, its.length + 1, rfl, Hp.set_same .., hrL, ro, by decide, by decide, by omega, by omega, fun it hit hitL => ?_⟩
  have le2 : Hp.Le hp1 (hp1.set r (.obj ob)) := (Hp.Le.refl _).set hr _
  have hbit : hb it = none := (le1.trans le2).none hit
  have i4 : L + 4 ≠ it := Hp.ne_of (le2 _ _ g4) hit
  have i5 : L + 5 ≠ it := Hp.ne_of (le2 _ _ g5) hit
  have iF : fA ≠ it := Hp.ne_of (le2 _ _ gf) hit
  refine ⟨fun i m₂ hp₂ => Hp.Le hb hp₂ ∧ hp₂ (L + 4) = some (.cell (some (.ref fA))) ∧ (∃ v, hp₂ (L + 5) = some (.cell v)) ∧ (∀ y, y ≠ "cuts" → m₂ (S y) = m (S y)) ∧ ∃ fs : List Int, fs.length = i + 1 ∧ FP its into fs ∧ hp₂ fA = some (.list (fs.map .int)), fun ob' => ?_, fun i m₂ hp₂ ob' x => ?_, fun i m₂ hp₂ ob' hi x hob => ?_, fun m₂ hp₂ x => ?_⟩
  · exact ⟨(le1.trans le2).set hbit _, by rw [Hp.set_ne _ _ i4]; exact le2 _ _ g4, ⟨v5, by rw [Hp.set_ne _ _ i5]; exact le2 _ _ g5⟩, fun _ _ => rfl, [0], rfl, .one _ _, by rw [Hp.set_ne _ _ iF]; exact le2 _ _ gf⟩
  · obtain ⟨x1, x2, ⟨v, x3⟩, x4, fs, x5, x6, x7⟩ := x
    exact ⟨x1.set hbit _, by rw [Hp.set_ne _ _ i4]; exact x2, ⟨v, by rw [Hp.set_ne _ _ i5]; exact x3⟩, x4, fs, x5, x6, by rw [Hp.set_ne _ _ iF]; exact x7⟩
  · obtain ⟨x1, x2, ⟨v, x3⟩, x4, fs, x5, x6, x7⟩ := x
    have hi' : i < its.length := by omega
    refine ASG_cell (c := L + 5) rfl x3 c5L ?_
    have e5 : (1 : Int) + i = fs.length := by rw [x5]; omega
    rw [e5]
    have le3 : Hp.Le hb (hp₂.set (L + 5) (.cell (some (.int fs.length)))) := x1.set b5 _
    refine few_turn (hb := hb) G hh hu hroom (W.le le3) (by rw [Hp.set_ne _ _ (by simp)]; exact x2) (Hp.set_same ..) (by rw [Hp.set_ne _ _ (Ne.symm f5)]; exact x7) hfL (by omega) (by omega) fun m' hp' v' k1 k2 k3 k4 k5 => ?_
    refine ⟨⟨fun z o e => k2 z o (Hp.ne_of e bf) (le3 _ _ e), k2 _ _ f4 (by rw [Hp.set_ne _ _ (by simp)]; exact x2), ⟨_, k2 _ _ f5 (Hp.set_same ..)⟩, fun y hy => (k1 y hy).trans (x4 y hy), fs ++ [1 + v'], by simp [x5], x6.snoc (by omega) k4 k5, k3⟩, k2 _ _ (Ne.symm iF) (by rw [Hp.set_ne _ _ (Ne.symm i5)]; exact hob)⟩
  · obtain ⟨x1, x2, ⟨v, x3⟩, x4, fs, x5, x6, x7⟩ := x
    have hle' : Hp.Le hb (hp₂.del it) := x1.del hbit
    have x5' : fs.length = its.length + 1 := by omega
    refine law_ret (hb := hb) (fs := fs) G hh hu (W.le hle') (by rw [Hp.del_ne _ i4]; exact x2) (by rw [Hp.del_ne _ iF]; exact x7) hfL (hle' _ _ hs) hsL (by rw [x4 _ (by decide)]; exact hm1) (by rw [x4 _ (by decide)]; exact hm2) GG.sg ((GG.fw _ (x6.fw x5')).1) x5' fun hp' l => hq _ _ (hle'.trans l)
end
end Mine

open PySem PySem.W PyProof.Rows PySem.Calls
set_option maxRecDepth 100000
set_option maxHeartbeats 4000000
namespace Mine
def Hp.two (hp : Hp) (a b : Addr) : Hp := fun z => if z = a ∨ z = b then none else hp z
theorem Hp.two_eq {hp : Hp} {a b z : Addr} (h1 : z ≠ a) (h2 : z ≠ b) : hp.two a b z = hp z := by simp [Hp.two, h1, h2]
theorem Hp.two_le (hp : Hp) (a b : Addr) : Hp.Le (hp.two a b) hp := fun z o e => by
  unfold Hp.two at e; split at e
  · cases e
  · exact e
theorem LW.cut {hp : Hp} {L : Addr} {its : List Int} {into : Bool} {aI x dx d j : Addr} {ma : Loc} {kvs : List (Int × AV)} (W : LW hp L its into aI x dx d j ma kvs) {v4 v5 : Option AV} (h4 : hp (L + 4) = some (.cell v4)) (h5 : hp (L + 5) = some (.cell v5)) : LW (hp.two (L + 4) (L + 5)) L its into aI x dx d j ma kvs := by
  have k : ∀ z o, hp z = some o → (∀ v, o ≠ .cell v) → (hp.two (L + 4) (L + 5)) z = some o := fun z o e ho => by
    rw [Hp.two_eq (fun h => by rw [h, h4] at e; cases e; exact ho _ rfl) (fun h => by rw [h, h5] at e; cases e; exact ho _ rfl)]; exact e
  refine ⟨by rw [Hp.two_eq (by simp) (by simp)]; exact W.c2, by rw [Hp.two_eq (by simp) (by simp)]; exact W.c3, k _ _ W.l (by simp), W.lL, ⟨k _ _ W.I.ob (by simp), k _ _ W.I.at_ (by simp), W.I.xL, W.I.dL⟩, W.F, ⟨k _ _ W.R.di (by simp), W.R.dL, W.R.no, fun q v hk => ?_, W.R.inj, W.R.len⟩, k _ _ W.s (by simp), W.sL, W.n⟩
  obtain ⟨a, e, ha, haL, hba⟩ := W.R.yes q v hk
  exact ⟨a, e, k _ _ ha (by simp), haL, hba⟩
def scr (ns : List Int) : List Int := pick ns none (some 63)
def hd (ns : List Int) : Int := (scr ns ++ [0]).getD 0 0
def md (ns : List Int) : Int := [0, 2, 3, 5].getD ((hd ns).fmod 4).toNat 0
def intoB (ns : List Int) : Bool := ((hd ns).fdiv 4).fmod 2 == 1
def rawI (ns : List Int) : List Int := pick (scr ns) (some 1) none ++ [((scr ns).length : Int), 5, 3, 5, 3, 3, 3, 3]
def itsF (ns : List Int) : List Int := (rawI ns).map fun x => if md ns > 0 then x.fmod (md ns) else x
theorem pick_len {α : Type} (xs : List α) (lo hi : Option Int) : (pick xs lo hi).length ≤ xs.length := by
  unfold pick; rw [List.length_take, List.length_drop]; omega
section
variable {w : World} {A : Around} {E : Value → Shared → Prop} {B : Shared} {env : Env} {m : Loc} {hp : Hp}
theorem law_body {L sc : Addr} {ns : List Int} {m0 : Loc} {hp1 : Hp} (G : Gnd (KW w) B) (hh : A.handled = none) (hu : A.units + 80 < cLine) (hroom : A.depth + 7 < recursionLimit) (hlen : ns.length ≤ 63) (hl1 : Lst B hp1 L sc (ns.map .int)) (g0 : m0 (S "script") = some (.ref sc))
    (c1 : hp1 (L + 1) = some (.cell none)) (c2 : hp1 (L + 2) = some (.cell none)) (c3 : hp1 (L + 3) = some (.cell none)) (c4 : hp1 (L + 4) = some (.cell none)) (c5 : hp1 (L + 5) = some (.cell none)) :
    EXs (model PW w) A (fun _ _ => False) B (callEnvC fdLaw L 256) (dBody (topS PW 8)) m0 hp1 fun f m' hp' => f = .ret (.bool true) := by
    have f1 : L + 1 ≠ L := by simp
    have f2 : L + 2 ≠ L := by simp
    have f3 : L + 3 ≠ L := by simp
    have f4 : L + 4 ≠ L := by simp
    have f5 : L + 5 ≠ L := by simp
    have hsc : (scr ns).length ≤ 63 := Nat.le_trans (pick_len _ _ _) hlen
    conv => arg 6; whnf
    refine EXs_cons (EX_Assign (EV_Slice (EV_local g0 ?_)))
    show EV _ _ _ _ _ _ _ _ _
    refine EV_int ⟨sc, _, _, _, rfl, hl1, by rw [List.length_map]; exact sz' (by omega), rfl, rfl, fun a1 ha1 ha1L => ?_⟩
    rw [pick_map]
    change EXs _ _ _ _ _ _ _ (hp1.set a1 (.list ((scr ns).map .int))) _
    have le1 : Hp.Le hp1 (hp1.set a1 (.list ((scr ns).map .int))) := (Hp.Le.refl _).set ha1 _
    have k1 : (hp1.set a1 (.list ((scr ns).map .int))) a1 = some (.list ((scr ns).map .int)) := Hp.set_same ..
    generalize hp1.set a1 (.list ((scr ns).map .int)) = hp2 at le1 k1 ⊢
    generalize hm1 : upd m0 _ _ = m1
    have s1 : m1 (S "script") = some (.ref a1) := by subst hm1; (first | assumption | (simp only [upd_get, String.reduceEq, if_true, if_false]; done) | (simp only [upd_get, String.reduceEq, if_true, if_false]; first | assumption | rfl))
    clear hm1 g0
    have k0 : (0 : Int).toNat = 0 := rfl
    refine EXs_cons (EX_Assign (EV_Subscript (EV_BinOp (EV_local s1 (EV_List (EVS_cons (EV_int (EVS_nil ⟨sz rfl, fun a2 ha2 ha2L => ?_⟩))))))))
    have le2 : Hp.Le hp2 (hp2.set a2 (.list [.int 0])) := (Hp.Le.refl _).set ha2 _
    refine OP_addL (le2 _ _ k1) ha1L (Hp.set_same ..) ha2L (by rw [List.length_map]; exact sz' (by simp; omega)) fun a3 ha3 ha3L => ?_
    have le3 : Hp.Le hp2 ((hp2.set a2 (.list [.int 0])).set a3 (.list ((scr ns).map .int ++ [.int 0]))) := le2.set (le2.none ha3) _
    have hx0 : ((scr ns).map AV.int ++ [.int 0])[(0 : Int).toNat]? = some (.int (hd ns)) := by
      unfold hd
      cases scr ns <;> simp
    refine EV_int (SUB_list (.own (Hp.set_same ..) ha3L) (by decide) (by decide) hx0 ?_)
    have le4 := le1.trans le3
    have k3 := le3 _ _ k1
    generalize (hp2.set a2 (.list [.int 0])).set a3 (.list ((scr ns).map .int ++ [.int 0])) = hp3 at le3 le4 k3 ⊢
    generalize hm2 : upd m1 _ _ = m2
    have s2 : m2 (S "script") = some (.ref a1) := by subst hm2; (first | assumption | (simp only [upd_get, String.reduceEq, if_true, if_false]; done) | (simp only [upd_get, String.reduceEq, if_true, if_false]; first | assumption | rfl))
    have s3 : m2 (S "head") = some (.int (hd ns)) := by subst hm2; (first | assumption | (simp only [upd_get, String.reduceEq, if_true, if_false]; done) | (simp only [upd_get, String.reduceEq, if_true, if_false]; first | assumption | rfl))
    clear hm2 s1
    have hm4 : 0 ≤ (hd ns).fmod 4 ∧ (hd ns).fmod 4 < 4 := ⟨Int.fmod_nonneg_of_pos _ (by decide), Int.fmod_lt_of_pos _ (by decide)⟩
    refine EXs_cons (EX_AssignT (EV_Tuple (EVS_cons (EV_Subscript (EV_List (EVS_cons (EV_int (EVS_cons (EV_int (EVS_cons (EV_int (EVS_cons (EV_int (EVS_nil ⟨sz rfl, fun a4 ha4 ha4L => ?_⟩))))))))))))))
    have le5 : Hp.Le hp3 (hp3.set a4 (.list [.int 0, .int 2, .int 3, .int 5])) := (Hp.Le.refl _).set ha4 _
    have hx1 : [AV.int 0, .int 2, .int 3, .int 5][((hd ns).fmod 4).toNat]? = some (.int (md ns)) := by
      unfold md
      generalize (hd ns).fmod 4 = q at hm4
      have : q = 0 ∨ q = 1 ∨ q = 2 ∨ q = 3 := by omega
      rcases this with rfl | rfl | rfl | rfl <;> rfl
    refine EV_BinOp (EV_local s3 (EV_int (OP_mod (by decide) (SUB_list (.own (Hp.set_same ..) ha4L) hm4.1 (by omega) hx1 ?_))))
    refine EVS_cons (EV_Compare1 (EV_BinOp (EV_BinOp (EV_local s3 (EV_int (OP_floordiv (by decide) (by decide) (EV_int (OP_mod (by decide) (EV_int (OP_eq (EVS_nil ⟨sz rfl, ?_⟩)))))))))))
    change ASG _ _ _ _ _ _ (.tup [.int (md ns), .bool (intoB ns)]) _ _ _
    have le6 := le4.trans le5
    have k4 := le5 _ _ k3
    generalize hp3.set a4 (.list [.int 0, .int 2, .int 3, .int 5]) = hp4 at le5 le6 k4 ⊢
    refine ASG_Tuple hh rfl rfl rfl (ASGS_cons (ASG_cell (c := L + 1) rfl (le6 _ _ c1) f1 (ASGS_cons (ASG_cell (c := L + 2) rfl (v₀ := none) ?_ f2 (ASGS_nil ?_)))))
    · rw [Hp.set_ne _ _ (by simp)]; exact le6 _ _ c2
    have ne1 : ∀ z o, hp4 z = some o → (∀ v, o ≠ .cell v) → z ≠ L + 1 ∧ z ≠ L + 2 := fun z o e ho => ⟨fun h => by rw [h, le6 _ _ c1] at e; cases e; exact ho _ rfl, fun h => by rw [h, le6 _ _ c2] at e; cases e; exact ho _ rfl⟩
    have d1 : ((hp4.set (L + 1) (.cell (some (.int (md ns))))).set (L + 2) (.cell (some (.bool (intoB ns))))) (L + 1) = some (.cell (some (.int (md ns)))) := by rw [Hp.set_ne _ _ (by simp)]; exact Hp.set_same ..
    have d2 : ((hp4.set (L + 1) (.cell (some (.int (md ns))))).set (L + 2) (.cell (some (.bool (intoB ns))))) (L + 2) = some (.cell (some (.bool (intoB ns)))) := Hp.set_same ..
    have d3 : ((hp4.set (L + 1) (.cell (some (.int (md ns))))).set (L + 2) (.cell (some (.bool (intoB ns))))) (L + 3) = some (.cell none) := by rw [Hp.set_ne _ _ (by simp), Hp.set_ne _ _ (by simp)]; exact le6 _ _ c3
    have d4 : ((hp4.set (L + 1) (.cell (some (.int (md ns))))).set (L + 2) (.cell (some (.bool (intoB ns))))) (L + 4) = some (.cell none) := by rw [Hp.set_ne _ _ (by simp), Hp.set_ne _ _ (by simp)]; exact le6 _ _ c4
    have d5 : ((hp4.set (L + 1) (.cell (some (.int (md ns))))).set (L + 2) (.cell (some (.bool (intoB ns))))) (L + 5) = some (.cell none) := by rw [Hp.set_ne _ _ (by simp), Hp.set_ne _ _ (by simp)]; exact le6 _ _ c5
    have k5 : ((hp4.set (L + 1) (.cell (some (.int (md ns))))).set (L + 2) (.cell (some (.bool (intoB ns))))) a1 = some (.list ((scr ns).map .int)) := by have := ne1 _ _ k4 (by simp); rw [Hp.set_ne _ _ this.2, Hp.set_ne _ _ this.1]; exact k4
    generalize (hp4.set (L + 1) (.cell (some (.int (md ns))))).set (L + 2) (.cell (some (.bool (intoB ns)))) = hp5 at d1 d2 d3 d4 d5 k5 ⊢
    clear ne1 k4 le5 le6 k3 le4 le3 k1 le1 hl1 c1 c2 c3 c4 c5
    have hsz1 : ((scr ns).map AV.int).length ≤ sizeLine := by rw [List.length_map]; exact sz' (by omega)
    have hpl : (pick (scr ns) (some 1) none).length ≤ 63 := Nat.le_trans (pick_len _ _ _) hsc
    refine EXs_cons (EX_AssignC (c := L + 3) rfl f3 (EV_CompLP (e := fun v => match v with | .int x => .int (if md ns > 0 then x.fmod (md ns) else x) | _ => .none) (cl := [(S "modulus", L + 1)]) hh rfl (by decide) (by decide) (fun _ => rfl) (EV_BinOp (EV_Slice (EV_local s2 (EV_int ?_))))))
    refine ⟨a1, _, _, _, rfl, .own k5 ha1L, hsz1, rfl, rfl, fun a5 ha5 ha5L => ?_⟩
    rw [pick_map]
    have le7 : Hp.Le hp5 (hp5.set a5 (.list ((pick (scr ns) (some 1) none).map .int))) := (Hp.Le.refl _).set ha5 _
    refine EV_List (EVS_cons (EV_CallB (EV_blt G (no_len w) blt_len (by decide) (fun _ => VR_bi) ⟨rfl, EVS_cons (EV_local s2 (EVS_nil (CL_len (.own (le7 _ _ k5) ha1L) hsz1 ?_)))⟩)))
    refine EVS_cons (EV_int (EVS_cons (EV_int (EVS_cons (EV_int (EVS_cons (EV_int (EVS_cons (EV_int (EVS_cons (EV_int (EVS_cons (EV_int (EVS_nil ⟨sz rfl, fun a6 ha6 ha6L => ?_⟩))))))))))))))
    rw [List.length_map]
    have h56 : a5 ≠ a6 := Hp.ne_of (Hp.set_same ..) ha6
    refine OP_addL (by rw [Hp.set_ne _ _ h56]; exact Hp.set_same ..) ha5L (Hp.set_same ..) ha6L (by rw [List.length_map]; exact sz' (by simp; omega)) fun a7 ha7 ha7L => ?_
    have le8 := le7.set (le7.none ha6) (.list [.int ((scr ns).length : Int), .int 5, .int 3, .int 5, .int 3, .int 3, .int 3, .int 3])
    have le9 := le8.set (le8.none ha7) (.list ((pick (scr ns) (some 1) none).map .int ++ [.int ((scr ns).length : Int), .int 5, .int 3, .int 5, .int 3, .int 3, .int 3, .int 3]))
    have hraw : (pick (scr ns) (some 1) none).map AV.int ++ [.int ((scr ns).length : Int), .int 5, .int 3, .int 5, .int 3, .int 3, .int 3, .int 3] = (rawI ns).map .int := by unfold rawI; rw [List.map_append]; rfl
    rw [hraw] at le9 ⊢
    have k7 : (((hp5.set a5 (.list ((pick (scr ns) (some 1) none).map .int))).set a6 (.list [.int ((scr ns).length : Int), .int 5, .int 3, .int 5, .int 3, .int 3, .int 3, .int 3])).set a7 (.list ((rawI ns).map .int))) a7 = some (.list ((rawI ns).map .int)) := Hp.set_same ..
    generalize ((hp5.set a5 (.list ((pick (scr ns) (some 1) none).map .int))).set a6 (.list [.int ((scr ns).length : Int), .int 5, .int 3, .int 5, .int 3, .int 3, .int 3, .int 3])).set a7 (.list ((rawI ns).map .int)) = hp6 at le9 k7 ⊢
    have hrl : (rawI ns).length ≤ 71 := by unfold rawI; rw [List.length_append]; simp; omega
    refine ⟨a7, _, rfl, .own k7 ha7L, by rw [List.length_map]; omega, fun C m₂ hp₃ v hv hC hCL hle3 hm₂ => ?_, fun aI haI haIL => ?_⟩
    · obtain ⟨xv, _, rfl⟩ := List.mem_map.mp hv
      have e1 : hp₃ (L + 1) = some (.cell (some (.int (md ns)))) := hle3 _ _ (by rw [show (callEnvC fdLaw L 256).locals = L from rfl, Hp.set_ne _ _ f1]; exact le9 _ _ d1)
      have n1 : L + 1 ≠ C := Hp.ne_of (le9 _ _ d1) hC
      refine EV_IfExp (TST_Compare1 (EV_cell (c := L + 1) rfl e1 n1 (EV_int (OP_gt (TRU_bool ?_)))))
      by_cases hc : 0 < md ns
      · rw [decide_eq_true hc, if_pos rfl]
        refine EV_BinOp (EV_local hm₂ (EV_cell (c := L + 1) rfl e1 n1 (OP_mod (by omega) ⟨?_, .refl _⟩)))
        show AV.int _ = AV.int (if md ns > 0 then _ else _)
        rw [if_pos hc]
      · rw [decide_eq_false hc, if_neg Bool.false_ne_true]
        refine EV_local hm₂ ⟨?_, .refl _⟩
        show AV.int _ = AV.int (if md ns > 0 then _ else _)
        rw [if_neg hc]
    · have hits : ((rawI ns).map AV.int).map (fun v => match v with | .int x => AV.int (if md ns > 0 then x.fmod (md ns) else x) | _ => .none) = (itsF ns).map .int := by
        unfold itsF; rw [List.map_map, List.map_map]; rfl
      rw [hits]
      have hil : (itsF ns).length ≤ 71 := by unfold itsF; rw [List.length_map]; exact hrl
      have le10 := le9.set (le9.none haI) (.list ((itsF ns).map .int))
      have kI : (hp6.set aI (.list ((itsF ns).map .int))) aI = some (.list ((itsF ns).map .int)) := Hp.set_same ..
      generalize hp6.set aI (.list ((itsF ns).map .int)) = hp7 at le10 kI ⊢
      refine ⟨none, le10 _ _ d3, ?_⟩
      have ne3 : ∀ z o, hp7 z = some o → (∀ v, o ≠ .cell v) → z ≠ L + 3 := fun z o e ho h => by rw [h, le10 _ _ d3] at e; cases e; exact ho _ rfl
      have e2 : (hp7.set (L + 3) (.cell (some (.ref aI)))) (L + 2) = some (.cell (some (.bool (intoB ns)))) := by rw [Hp.set_ne _ _ (by simp)]; exact le10 _ _ d2
      have e3 : (hp7.set (L + 3) (.cell (some (.ref aI)))) (L + 3) = some (.cell (some (.ref aI))) := Hp.set_same ..
      have e4 : (hp7.set (L + 3) (.cell (some (.ref aI)))) (L + 4) = some (.cell none) := by rw [Hp.set_ne _ _ (by simp)]; exact le10 _ _ d4
      have e5 : (hp7.set (L + 3) (.cell (some (.ref aI)))) (L + 5) = some (.cell none) := by rw [Hp.set_ne _ _ (by simp)]; exact le10 _ _ d5
      have eI : (hp7.set (L + 3) (.cell (some (.ref aI)))) aI = some (.list ((itsF ns).map .int)) := by rw [Hp.set_ne _ _ (ne3 _ _ kI (by simp))]; exact kI
      generalize hp7.set (L + 3) (.cell (some (.ref aI))) = hp8 at e2 e3 e4 e5 eI ⊢
      clear ne3 kI le10 le9 k7 le8 le7 d1 d2 d3 d4 d5 k5
      refine EXs_cons (EX_Assign (EV_CallK G (f := 242) (by kernel_rfl) (EV_glob G (g_SM w) (fun _ => VR_ref) ⟨rfl, EVS_cons (EV_none (EVS_cons (EV_cell (c := L + 3) rfl e3 f3 (EVS_cons (EV_cell (c := L + 3) rfl e3 f3 (EVS_cons (EV_boolc (EVS_nil ?_))))))))⟩)))
      refine CL_SM G hh (by omega) (.own eI haIL) (.inl rfl) (by omega) fun hp9 x dx ma d j kvs i1 i2 i3 i4 i5 i6 i7 => ?_
      generalize hm3 : upd m2 _ _ = m3
      have t1 : m3 (S "matcher") = some (.ref x) := by subst hm3; (first | assumption | (simp only [upd_get, String.reduceEq, if_true, if_false]; done) | (simp only [upd_get, String.reduceEq, if_true, if_false]; first | assumption | rfl))
      clear hm3 s2 s3
      have up : ∀ z o, z ≠ L → hp8 z = some o → hp9 z = some o := i6
      have j2 := up _ _ f2 e2
      have j3 := up _ _ f3 e3
      have j4 := up _ _ f4 e4
      have j5 := up _ _ f5 e5
      have jI := up _ _ haIL eI
      have W : LW hp9 L (itsF ns) (intoB ns) aI x dx d j ma kvs := ⟨j2, j3, jI, haIL, i1, i2, i3, i4, i5, by omega⟩
      refine EXs_cons (EX_AssignSw hh (names := [S "p", S "parts", S "single"]) (EV_Tuple (EVS_cons (EV_int (EVS_cons (EV_int (EVS_cons (EV_List (EVS_nil ⟨Nat.zero_le _, fun sA hsA hsL => EVS_nil ⟨sz rfl, _, rfl, rfl, ASGS_bind (ASGS_bind (ASGS_bind (ASGS_nil ?_)))⟩⟩)))))))))
      generalize hm4' : upd (upd (upd m3 _ _) _ _) _ _ = m4
      have u1 : m4 (S "matcher") = some (.ref x) := by subst hm4'; (first | assumption | (simp only [upd_get, String.reduceEq, if_true, if_false]; done) | (simp only [upd_get, String.reduceEq, if_true, if_false]; first | assumption | rfl))
      have u2 : m4 (S "p") = some (.int 0) := by subst hm4'; (first | assumption | (simp only [upd_get, String.reduceEq, if_true, if_false]; done) | (simp only [upd_get, String.reduceEq, if_true, if_false]; first | assumption | rfl))
      have u3 : m4 (S "parts") = some (.int 0) := by subst hm4'; (first | assumption | (simp only [upd_get, String.reduceEq, if_true, if_false]; done) | (simp only [upd_get, String.reduceEq, if_true, if_false]; first | assumption | rfl))
      have u4 : m4 (S "single") = some (.ref sA) := by subst hm4'; (first | assumption | (simp only [upd_get, String.reduceEq, if_true, if_false]; done) | (simp only [upd_get, String.reduceEq, if_true, if_false]; first | assumption | rfl))
      clear hm4'
      refine EXs_cons (EX.mono (law_outer (A := A) (hb := hp9) G hh (by omega) (by omega) W ((Hp.Le.refl hp9).set hsA _) hsA u1 u2 u3 u4 (Hp.set_same ..) hsL) fun fl m5 hp10 z => ?_)
      obtain ⟨rfl, z1, z2, parts, single, z3, z4, GG⟩ := z
      have W10 := W.le z1
      have q4 := z1 _ _ j4
      have q5 := z1 _ _ j5
      have nsA : sA ≠ L + 4 ∧ sA ≠ L + 5 := ⟨fun e => (by rw [e, q4] at z4; cases z4), fun e => (by rw [e, q5] at z4; cases z4)⟩
      refine law_end (A := A) (hb := hp10.two (L + 4) (L + 5)) (sA := sA) G hh (by omega) (by omega) (W10.cut q4 q5) (Hp.two_le hp10 _ _) (by simp [Hp.two]) (by simp [Hp.two]) q4 q5 (by rw [Hp.two_eq nsA.1 nsA.2]; exact z4) hsL (by rw [z2 _ (by decide)]; exact u4) z3 GG fun m' hp' l => ?_
      rfl
end
end Mine

open PySem PySem.W PyProof.Rows PySem.Calls
set_option maxRecDepth 100000
namespace Mine
section
variable {prog : Program} {w : World} {A : Around} {E : Value → Shared → Prop} {B : Shared} {K : Frag}
theorem top_cells {f : Addr} {fd : FuncData} {body : List Stmt} {vs : List Value} {us : List (PySem.Str × Value)} {bs : List (PySem.Str × AV)} (G : Gnd K B) (hg : B.gens = #[]) (ho : K.lookup f = some ⟨.type "function", none, .func fd, #[]⟩) (hcd : codeIn K fd.code fd.qualname = true)
    (hbody : fd.body = .stmts body) (hroom : A.depth < recursionLimit) (hclo : fd.closure = [])
    (hb : bindArgs fd ⟨vs, []⟩ = pure us) (e1 : us.map (·.1) = bs.map (·.1)) (e2 : VRs B.heap (bs.map (·.2)) (us.map (·.2)))
    (hkind : ∀ L, ∀ x ∈ bs, fd.scope.names.lookup x.1 = some .local ∨ (fd.scope.names.lookup x.1 = some .cell ∧ ((cellsFrom (L + 1) fd.scope.names []).lookup x.1).isSome = true))
    (h : ∀ L, EXs (model prog w) (A.deeper (callEnvC fd L f)) (fun _ _ => False) B (callEnvC fd L f) body (bindLA (callEnvC fd L f).kindOf bs fun _ => none) (putCells (fun _ => none) (cellsFrom (L + 1) fd.scope.names []) (bindCA (callEnvC fd L f).kindOf bs fun _ => none)) (fun fl _ _ => fl = .ret (.bool true)))
    (hnd : ∀ L, ∀ n c, (n, c) ∈ cellsFrom (L + 1) fd.scope.names [] → (cellsFrom (L + 1) fd.scope.names []).lookup n = some c)
    (hco : fd.scope.isCoroutine = false := by rfl) (hgen : fd.scope.isGenerator = false := by rfl) (hk : fd.scope.kind = .function := by rfl) :
    wpAny (model prog w) A (call (.ref f) vs) (fun v s' => v = .bool true ∧ OldK B.heap s'.heap ∧ s'.os = B.os ∧ AllBare s'.gens) (fun _ _ => False) B := by
  refine wpAny_call ?_
  have hkd : ∀ x ∈ us, fd.scope.names.lookup x.1 = some .local ∨ (fd.scope.names.lookup x.1 = some .cell ∧ ((cellsFrom (B.heap.objs.size + 1) fd.scope.names []).lookup x.1).isSome = true) := fun x hx => by
    have : x.1 ∈ bs.map (·.1) := by rw [← e1]; exact List.mem_map_of_mem hx
    obtain ⟨y, hy, e⟩ := List.mem_map.mp this
    rw [← e]; exact hkind _ y hy
  refine codeAny_call_cells hroom (G.X _ _ ho) rfl G.lim (codeRec_of G.X hcd) hbody hb hclo hkd (fun s₁ x => ?_) hco hgen hk
  obtain ⟨⟨⟨h₁, tk₁, rfl⟩, xns, xk, xf⟩, xc, xa, xab⟩ := x
  have le : ImmLe B.heap h₁ := ImmLe.keep xk
  generalize hLL : B.heap.objs.size = L at *
  change h₁.Ns L _ at xns
  have rel : Rel B ((putCells (fun _ => none) (cellsFrom (L + 1) fd.scope.names []) (bindCA (callEnvC fd L f).kindOf bs fun _ => none)).set (callEnvC fd L f).locals (.ns (bindLA (callEnvC fd L f).kindOf bs fun _ => none))) { B with heap := h₁, toks := tk₁ } := by
    refine ⟨fun b o e => xk _ _ e, fun a o e => ?_, rfl, ⟨by show AllBare B.gens; rw [hg]; exact fun y hy => by simp at hy, Nat.le_refl _⟩, ?_⟩
    · by_cases ha : a = L
      · subst ha
        rw [show (callEnvC fd a f).locals = a from rfl, Hp.set_same] at e
        cases e
        exact ⟨Nat.le_of_eq hLL, _, xns, bindL_rel e1 (e2.mono le) ⟨fun x v e => (by cases e), fun x _ => rfl⟩⟩
      · rw [show (callEnvC fd L f).locals = L from rfl, Hp.set_ne _ _ ha] at e
        unfold putCells at e
        cases hf : (cellsFrom (L + 1) fd.scope.names []).find? (fun x => decide (x.2 = a)) with
        | some x =>
          rw [hf] at e
          cases e
          have hmem := List.mem_of_find?_eq_some hf
          have hxa : x.2 = a := by have := List.find?_some hf; simpa using this
          obtain ⟨o', ho', hd'⟩ := xc x.1 a (by have := hnd L x.1 x.2 hmem; rw [hxa] at this; exact this)
          have hlt : L < x.2 := xab x.1 x.2 hmem
          refine ⟨by rw [← hxa, hLL]; exact Nat.le_of_lt hlt, o', _, ho', hd', ?_⟩
          have hC := bindC_rel (k := (callEnvC fd L f).kindOf) (h := h₁) e1 (e2.mono le) (m := fun _ => none) (mv := fun _ => none) ⟨fun x v e => (by cases e), fun x _ => rfl⟩
          cases hcm : bindCA (callEnvC fd L f).kindOf bs (fun _ => none) x.1 with
          | none => exact hC.2 x.1 hcm
          | some v => obtain ⟨u, hu, hvu⟩ := hC.1 x.1 v hcm; exact ⟨u, hu, hvu⟩
        | none =>
          rw [hf] at e
          cases e
    · rw [hLL]; exact Nat.le_of_lt xns.lt
  refine wpAny_mono (h L _ rel) (fun fl s' x => ?_) fun _ _ x => x.elim
  obtain ⟨af, m', hp', r', le', hf, e⟩ := x
  subst e
  obtain ⟨u, rfl, hu⟩ := hf
  simp only [VR] at hu; subst hu
  exact ⟨rfl, OldK.of_keep r'.keep, r'.os, r'.bare.1⟩
theorem VRs_of_ints {h : Heap} {vs : List Value} {ns : List Int} (x : IntsAre vs ns) : VRs h (ns.map .int) vs := by
  induction x with
  | nil => simp [VRs]
  | cons n t _ ih => simp only [List.map_cons, VRs]; exact ⟨_, _, rfl, VR_int, ih⟩
end
end Mine

open PySem PySem.W PyProof.Rows PySem.Calls
set_option maxRecDepth 100000
namespace Mine
theorem holds : PySem.Challenge.rw_dm0058_08.Holds := by
  refine head fun w s mean mg mb l vs ns T X hg hl hI hlen _ => ?_
  have G : Gnd (KW w) s := ⟨X, ⟨mg, mb, T.g, T.b, T.builtins⟩, T.nolimit⟩
  refine top_cells (us := [(S "script", .ref l)]) (bs := [(S "script", .ref l)]) (body := dBody (topS PW 8)) G hg (kLaw w) (by kernel_rfl) rfl (by decide) rfl rfl rfl (VRs.one VR_ref) (fun L x hx => ?_) (fun L => ?_) (fun L n c hm => ?_)
  · simp only [List.mem_cons, List.not_mem_nil, or_false] at hx
    subst hx; exact .inl rfl
  · have hcl : cellsFrom (L + 1) fdLaw.scope.names [] = [(S "q", L + 5), (S "fewest", L + 4), (S "items", L + 3), (S "into", L + 2), (S "modulus", L + 1)] := rfl
    rw [hcl]
    generalize hhp1 : putCells (fun _ => none) _ _ = hp1
    have c1 : hp1 (L + 1) = some (.cell none) := by rw [← hhp1]; simp [putCells, List.find?]; rfl
    have c2 : hp1 (L + 2) = some (.cell none) := by rw [← hhp1]; simp [putCells, List.find?]; rfl
    have c3 : hp1 (L + 3) = some (.cell none) := by rw [← hhp1]; simp [putCells, List.find?]; rfl
    have c4 : hp1 (L + 4) = some (.cell none) := by rw [← hhp1]; simp [putCells, List.find?]; rfl
    have c5 : hp1 (L + 5) = some (.cell none) := by rw [← hhp1]; simp [putCells, List.find?]; rfl
    have g0 : bindLA (callEnvC fdLaw L 256).kindOf [(S "script", AV.ref l)] (fun _ => none) (S "script") = some (.ref l) := rfl
    exact law_body (A := callerA.deeper (callEnvC fdLaw L 256)) G rfl (show 4 + 3 + 80 < 9900 from by decide) (show 301 + 1 + 7 < 1000 from by decide) hlen (.inr ⟨vs.toArray, hl, VRs_of_ints hI⟩) g0 c1 c2 c3 c4 c5
  · rw [show cellsFrom (L + 1) fdLaw.scope.names [] = [(S "q", L + 5), (S "fewest", L + 4), (S "items", L + 3), (S "into", L + 2), (S "modulus", L + 1)] from rfl] at hm ⊢
    simp only [List.mem_cons, Prod.mk.injEq, List.not_mem_nil, or_false] at hm
    rcases hm with ⟨rfl, rfl⟩ | ⟨rfl, rfl⟩ | ⟨rfl, rfl⟩ | ⟨rfl, rfl⟩ | ⟨rfl, rfl⟩ <;> rfl
end Mine

set_option maxRecDepth 100000 in
set_option maxHeartbeats 8000000 in
theorem PySem.Challenge.cw_dm0058_08_holds : PySem.Challenge.rw_dm0058_08.Holds :=
  Mine.holds

