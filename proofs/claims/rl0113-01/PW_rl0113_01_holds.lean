import PyProof.Rows.All
import Wide.All
import OpenK.AllK
import Wide.FinOn
import PySem.Challenge.RW_rl0113_01
set_option Elab.async false
set_option maxRecDepth 100000
noncomputable section
open PySem PySem.W PyProof.Rows
namespace Mine

def topStmt (i : Nat) : Stmt := (PySem.Challenge.pw_rl0113_01.main.body[i]?).getD (.Pass ⟨0, 0, 0, 0⟩)
def clsBody : Stmt → List Stmt
  | .ClassDef _ _ _ b _ _ _ _ _ _ _ => b
  | _ => []
def clsStmt (i : Nat) : Stmt := ((clsBody (topStmt 7))[i]?).getD (.Pass ⟨0, 0, 0, 0⟩)
def sName : Stmt → Str
  | .FunctionDef n _ _ _ _ _ _ _ _ _ => n
  | _ => Str.empty
def sParams : Stmt → Arguments
  | .FunctionDef _ a _ _ _ _ _ _ _ _ => a
  | _ => default
def sBody : Stmt → List Stmt
  | .FunctionDef _ _ b _ _ _ _ _ _ _ => b
  | _ => []
def sScope : Stmt → Scope
  | .FunctionDef _ _ _ _ _ _ sc _ _ _ => sc
  | _ => default
def fdOf (st : Stmt) (qual : Str) (dV pm : Value) (c : Addr) : FuncData :=
  { name := sName st, qualname := qual, params := sParams st, body := .stmts (sBody st), scope := sScope st, globals := mainGlobals, closure := [], defaults := dV, kwdefaults := .none, doc := .none, pyModule := pm, annotations := none, code := .ref c, closureTuple := .none, builtins := builtinsNs }
def fnObj (st : Stmt) (qual : Str) (dV pm : Value) (c : Addr) : Obj := { cls := .type "function", data := .func (fdOf st qual dV pm c) }

def KK (P : Params) : Frag := [
  (194, fnObj (topStmt 10) (Str.ofString "pretty_flags") (.none) (.str (Str.ofString "cpy313.dis") 552) 193),
  (193, { cls := .type "code", data := .fields #[(.str (Str.ofString "pretty_flags") 585), (.str (Str.ofString "pretty_flags") 586), (.str (Str.ofString "/claim/cut.py") 587), (.int 102 0), (.int 1 0), (.int 0 0), (.int 0 0), (.int 3 0), (.ref 188), (.bool true), (.int 276 0), (.ref 189), .none, (.ref 190), (.ref 191), (.ref 192), (.int 592 0), (.int 102 0), (.str (Str.ofString "/claim/cut.py") 593)] }),
  (201, fnObj (topStmt 15) (Str.ofString "_substitution_cost") (.none) (.str (Str.ofString "cpy313.traceback") 595) 200),
  (200, { cls := .type "code", data := .fields #[(.str (Str.ofString "_substitution_cost") 603), (.str (Str.ofString "_substitution_cost") 604), (.str (Str.ofString "/claim/cut.py") 605), (.int 118 0), (.int 2 0), (.int 0 0), (.int 0 0), (.int 3 0), (.ref 195), (.bool true), (.int 276 0), (.ref 196), .none, (.ref 197), (.ref 198), (.ref 199), (.int 608 0), (.int 118 0), (.str (Str.ofString "/claim/cut.py") 609)] }),
  (208, fnObj (topStmt 16) (Str.ofString "_levenshtein_distance") (.none) (.str (Str.ofString "cpy313.traceback") 595) 207),
  (207, { cls := .type "code", data := .fields #[(.str (Str.ofString "_levenshtein_distance") 611), (.str (Str.ofString "_levenshtein_distance") 612), (.str (Str.ofString "/claim/cut.py") 613), (.int 124 0), (.int 3 0), (.int 0 0), (.int 0 0), (.int 3 0), (.ref 202), (.bool true), (.int 276 0), (.ref 203), .none, (.ref 204), (.ref 205), (.ref 206), (.int 628 0), (.int 124 0), (.str (Str.ofString "/claim/cut.py") 629)] }),
  (215, fnObj (topStmt 18) (Str.ofString "_law_numbers") (.none) (.str (Str.ofString "law_rl0113_01") 631) 214),
  (214, { cls := .type "code", data := .fields #[(.str (Str.ofString "_law_numbers") 633), (.str (Str.ofString "_law_numbers") 634), (.str (Str.ofString "/claim/cut.py") 635), (.int 163 0), (.int 1 0), (.int 0 0), (.int 0 0), (.int 3 0), (.ref 209), (.bool true), (.int 276 0), (.ref 210), .none, (.ref 211), (.ref 212), (.ref 213), (.int 639 0), (.int 163 0), (.str (Str.ofString "/claim/cut.py") 640)] }),
  (220, fnObj (topStmt 19) (Str.ofString "_law_members") (.none) (.str (Str.ofString "law_rl0113_01") 631) 219),
  (219, { cls := .type "code", data := .fields #[(.str (Str.ofString "_law_members") 642), (.str (Str.ofString "_law_members") 643), (.str (Str.ofString "/claim/cut.py") 644), (.int 168 0), (.int 1 0), (.int 0 0), (.int 0 0), (.int 3 0), (.ref 216), (.bool true), (.int 276 0), (.ref 217), .none, .none, .none, (.ref 218), (.int 645 0), (.int 168 0), (.str (Str.ofString "/claim/cut.py") 646)] }),
  (225, fnObj (topStmt 20) (Str.ofString "_law_kept") (.none) (.str (Str.ofString "law_rl0113_01") 631) 224),
  (224, { cls := .type "code", data := .fields #[(.str (Str.ofString "_law_kept") 648), (.str (Str.ofString "_law_kept") 649), (.str (Str.ofString "/claim/cut.py") 650), (.int 170 0), (.int 1 0), (.int 0 0), (.int 0 0), (.int 3 0), (.ref 221), (.bool true), (.int 276 0), (.ref 222), .none, .none, .none, (.ref 223), (.int 651 0), (.int 170 0), (.str (Str.ofString "/claim/cut.py") 652)] }),
  (232, fnObj (topStmt 21) (Str.ofString "_law_table") (.none) (.str (Str.ofString "law_rl0113_01") 631) 231),
  (231, { cls := .type "code", data := .fields #[(.str (Str.ofString "_law_table") 654), (.str (Str.ofString "_law_table") 655), (.str (Str.ofString "/claim/cut.py") 656), (.int 176 0), (.int 3 0), (.int 0 0), (.int 0 0), (.int 3 0), (.ref 226), (.bool true), (.int 276 0), (.ref 227), .none, (.ref 228), (.ref 229), (.ref 230), (.int 662 0), (.int 176 0), (.str (Str.ofString "/claim/cut.py") 663)] }),
  (237, fnObj (topStmt 22) (Str.ofString "_law_whole") (.none) (.str (Str.ofString "law_rl0113_01") 631) 236),
  (236, { cls := .type "code", data := .fields #[(.str (Str.ofString "_law_whole") 665), (.str (Str.ofString "_law_whole") 666), (.str (Str.ofString "/claim/cut.py") 667), (.int 181 0), (.int 4 0), (.int 0 0), (.int 0 0), (.int 3 0), (.ref 233), (.bool true), (.int 276 0), (.ref 234), .none, .none, .none, (.ref 235), (.int 668 0), (.int 181 0), (.str (Str.ofString "/claim/cut.py") 669)] }),
  (242, fnObj (topStmt 23) (Str.ofString "_law_pairs") (.none) (.str (Str.ofString "law_rl0113_01") 631) 241),
  (241, { cls := .type "code", data := .fields #[(.str (Str.ofString "_law_pairs") 671), (.str (Str.ofString "_law_pairs") 672), (.str (Str.ofString "/claim/cut.py") 673), (.int 187 0), (.int 3 0), (.int 0 0), (.int 0 0), (.int 3 0), (.ref 238), (.bool true), (.int 276 0), (.ref 239), .none, .none, .none, (.ref 240), (.int 674 0), (.int 187 0), (.str (Str.ofString "/claim/cut.py") 675)] }),
  (76, fnObj (clsStmt 0) (Str.ofString "Headers.__init__") (.ref 69) (.str (Str.ofString "cpy313.wsgiref.headers") 289) 75),
  (75, { cls := .type "code", data := .fields #[(.str (Str.ofString "__init__") 407), (.str (Str.ofString "Headers.__init__") 408), (.str (Str.ofString "/claim/cut.py") 409), (.int 20 0), (.int 2 0), (.int 0 0), (.int 0 0), (.int 3 0), (.ref 70), (.bool true), (.int 276 0), (.ref 71), .none, (.ref 72), (.ref 73), (.ref 74), (.int 414 0), (.int 20 0), (.str (Str.ofString "/claim/cut.py") 415)] }),
  (83, fnObj (clsStmt 1) (Str.ofString "Headers._convert_string_type") (.none) (.str (Str.ofString "cpy313.wsgiref.headers") 289) 82),
  (82, { cls := .type "code", data := .fields #[(.str (Str.ofString "_convert_string_type") 417), (.str (Str.ofString "Headers._convert_string_type") 418), (.str (Str.ofString "/claim/cut.py") 419), (.int 30 0), (.int 2 0), (.int 0 0), (.int 1 0), (.int 3 0), (.ref 77), (.bool true), (.int 276 0), (.ref 78), .none, (.ref 79), (.ref 80), (.ref 81), (.int 424 0), (.int 30 0), (.str (Str.ofString "/claim/cut.py") 425)] }),
  (121, fnObj (clsStmt 7) (Str.ofString "Headers.get_all") (.none) (.str (Str.ofString "cpy313.wsgiref.headers") 289) 120),
  (120, { cls := .type "code", data := .fields #[(.str (Str.ofString "get_all") 465), (.str (Str.ofString "Headers.get_all") 466), (.str (Str.ofString "/claim/cut.py") 467), (.int 55 0), (.int 2 0), (.int 0 0), (.int 0 0), (.int 3 0), (.ref 117), (.bool true), (.int 276 0), (.ref 118), .none, .none, .none, (.ref 119), (.int 468 0), (.int 55 0), (.str (Str.ofString "/claim/cut.py") 469)] }),
  (179, fnObj (clsStmt 16) (Str.ofString "Headers.add_header") (.none) (.str (Str.ofString "cpy313.wsgiref.headers") 289) 178),
  (178, { cls := .type "code", data := .fields #[(.str (Str.ofString "add_header") 530), (.str (Str.ofString "Headers.add_header") 531), (.str (Str.ofString "/claim/cut.py") 532), (.int 87 0), (.int 3 0), (.int 0 0), (.int 0 0), (.int 11 0), (.ref 173), (.bool true), (.int 276 0), (.ref 174), .none, (.ref 175), (.ref 176), (.ref 177), (.int 540 0), (.int 87 0), (.str (Str.ofString "/claim/cut.py") 541)] }),
  (69, { cls := .type "tuple", data := .seq #[.none] 0 }),
  (181, { cls := .type "dict", data := .dict #[⟨PyData.keyHash P (Str.ofString "__module__"), .str (Str.ofString "__module__") 402, .str (Str.ofString "cpy313.wsgiref.headers") 289⟩,
      ⟨PyData.keyHash P (Str.ofString "__firstlineno__"), .str (Str.ofString "__firstlineno__") 406, .int 18 405⟩,
      ⟨PyData.keyHash P (Str.ofString "__init__"), .str (Str.ofString "__init__") 416, .ref 76⟩,
      ⟨PyData.keyHash P (Str.ofString "_convert_string_type"), .str (Str.ofString "_convert_string_type") 426, .ref 83⟩,
      ⟨PyData.keyHash P (Str.ofString "__len__"), .str (Str.ofString "__len__") 433, .ref 90⟩,
      ⟨PyData.keyHash P (Str.ofString "__setitem__"), .str (Str.ofString "__setitem__") 442, .ref 97⟩,
      ⟨PyData.keyHash P (Str.ofString "__delitem__"), .str (Str.ofString "__delitem__") 448, .ref 102⟩,
      ⟨PyData.keyHash P (Str.ofString "__getitem__"), .str (Str.ofString "__getitem__") 456, .ref 109⟩,
      ⟨PyData.keyHash P (Str.ofString "__contains__"), .str (Str.ofString "__contains__") 464, .ref 116⟩,
      ⟨PyData.keyHash P (Str.ofString "get_all"), .str (Str.ofString "get_all") 470, .ref 121⟩,
      ⟨PyData.keyHash P (Str.ofString "get"), .str (Str.ofString "get") 481, .ref 129⟩,
      ⟨PyData.keyHash P (Str.ofString "keys"), .str (Str.ofString "keys") 487, .ref 134⟩,
      ⟨PyData.keyHash P (Str.ofString "values"), .str (Str.ofString "values") 493, .ref 139⟩,
      ⟨PyData.keyHash P (Str.ofString "items"), .str (Str.ofString "items") 500, .ref 146⟩,
      ⟨PyData.keyHash P (Str.ofString "__repr__"), .str (Str.ofString "__repr__") 507, .ref 153⟩,
      ⟨PyData.keyHash P (Str.ofString "__str__"), .str (Str.ofString "__str__") 513, .ref 158⟩,
      ⟨PyData.keyHash P (Str.ofString "__bytes__"), .str (Str.ofString "__bytes__") 520, .ref 165⟩,
      ⟨PyData.keyHash P (Str.ofString "setdefault"), .str (Str.ofString "setdefault") 529, .ref 172⟩,
      ⟨PyData.keyHash P (Str.ofString "add_header"), .str (Str.ofString "add_header") 542, .ref 179⟩,
      ⟨PyData.keyHash P (Str.ofString "__static_attributes__"), .str (Str.ofString "__static_attributes__") 544, .ref 180⟩,
      ⟨PyData.keyHash P (Str.ofString "__dict__"), .str (Str.ofString "__dict__") 546, .ref 183⟩,
      ⟨PyData.keyHash P (Str.ofString "__weakref__"), .str (Str.ofString "__weakref__") 548, .ref 184⟩,
      ⟨PyData.keyHash P (Str.ofString "__doc__"), .str (Str.ofString "__doc__") 549, .none⟩] 4 }),
  (187, { cls := .type "dict", data := .dict #[⟨1, .int 1 554, .str (Str.ofString "OPTIMIZED") 555⟩,
      ⟨2, .int 2 556, .str (Str.ofString "NEWLOCALS") 557⟩,
      ⟨4, .int 4 558, .str (Str.ofString "VARARGS") 559⟩,
      ⟨8, .int 8 560, .str (Str.ofString "VARKEYWORDS") 561⟩,
      ⟨16, .int 16 562, .str (Str.ofString "NESTED") 563⟩,
      ⟨32, .int 32 564, .str (Str.ofString "GENERATOR") 565⟩,
      ⟨64, .int 64 566, .str (Str.ofString "NOFREE") 567⟩,
      ⟨128, .int 128 568, .str (Str.ofString "COROUTINE") 569⟩,
      ⟨256, .int 256 570, .str (Str.ofString "ITERABLE_COROUTINE") 571⟩,
      ⟨512, .int 512 572, .str (Str.ofString "ASYNC_GENERATOR") 573⟩] 10 }),
  (48, { cls := .type "re.Pattern", data := .fields #[(.str (Str.ofString "[\\x00-\\x1F\\x7F]") 326), (.int 32 349), (.int 0 0), .none, .none, (.ref 47), (.int 0 0)] }),
  (47, { cls := .type "tuple", data := .seq #[.int 14 0, .int 10 0, .int 4 0, .int 1 0, .int 1 0, .int 22 0, .int 0 0, .int 31 0, .int 16 0, .int 127 0, .int 0 0, .int 13 0, .int 7 0, .int 22 0, .int 0 0, .int 31 0, .int 16 0, .int 127 0, .int 0 0, .int 1 0] 0 }),
  (53, { cls := .type "re.Pattern", data := .fields #[(.str (Str.ofString "[\\x00-\\x08\\x0A-\\x1F\\x7F]") 352), (.int 32 383), (.int 0 0), .none, .none, (.ref 52), (.int 0 0)] }),
  (52, { cls := .type "tuple", data := .seq #[.int 14 0, .int 14 0, .int 4 0, .int 1 0, .int 1 0, .int 9 0, .int 4294966783 0, .int 0 0, .int 0 0, .int 2147483648 0, .int 0 0, .int 0 0, .int 0 0, .int 0 0, .int 0 0, .int 13 0, .int 11 0, .int 9 0, .int 4294966783 0, .int 0 0, .int 0 0, .int 2147483648 0, .int 0 0, .int 0 0, .int 0 0, .int 0 0, .int 0 0, .int 1 0] 0 }),
  (182, { cls := .type "type", data := .cls { name := Str.ofString "Headers", bases := [.type "object"], mro := [.ref 182, .type "object"], ns := 181, qualname := Str.ofString "Headers" }, slots := #[none, none, some (.str (Str.ofString "Headers") 395), some (.str (Str.ofString "Headers") 403), some (.builtin "object.__new__"), some (.bool true)] })]
def KKa : List Addr := [194, 193, 201, 200, 208, 207, 215, 214, 220, 219, 225, 224, 232, 231, 237, 236, 242, 241, 76, 75, 83, 82, 121, 120, 179, 178, 69, 181, 187, 48, 47, 53, 52, 182]

def gtab : List (Str × Option Value) := [
  (Str.ofString "Headers", some (.ref 182)),
  (Str.ofString "COMPILER_FLAG_NAMES", some (.ref 187)),
  (Str.ofString "pretty_flags", some (.ref 194)),
  (Str.ofString "_MAX_STRING_SIZE", some (.int 40 597)),
  (Str.ofString "_MOVE_COST", some (.int 2 599)),
  (Str.ofString "_CASE_COST", some (.int 1 601)),
  (Str.ofString "_substitution_cost", some (.ref 201)),
  (Str.ofString "_levenshtein_distance", some (.ref 208)),
  (Str.ofString "_law_numbers", some (.ref 215)),
  (Str.ofString "_law_members", some (.ref 220)),
  (Str.ofString "_law_kept", some (.ref 225)),
  (Str.ofString "_law_table", some (.ref 232)),
  (Str.ofString "_law_whole", some (.ref 237)),
  (Str.ofString "_law_pairs", some (.ref 242)),
  (Str.ofString "_name_disallowed_re", some (.ref 48)),
  (Str.ofString "_value_disallowed_re", some (.ref 53)),
  (Str.ofString "len", none),
  (Str.ofString "range", none),
  (Str.ofString "set", none),
  (Str.ofString "sum", none),
  (Str.ofString "type", none),
  (Str.ofString "int", none),
  (Str.ofString "str", none),
  (Str.ofString "list", none),
  (Str.ofString "min", none),
  (Str.ofString "hex", none),
  (Str.ofString "enumerate", none)]

theorem gl_Headers : (Str.ofString "Headers", some (.ref 182)) ∈ gtab := List.mem_of_getElem? (i := 0) rfl
theorem gl_COMPILER_FLAG_NAMES : (Str.ofString "COMPILER_FLAG_NAMES", some (.ref 187)) ∈ gtab := List.mem_of_getElem? (i := 1) rfl
theorem gl_pretty_flags : (Str.ofString "pretty_flags", some (.ref 194)) ∈ gtab := List.mem_of_getElem? (i := 2) rfl
theorem gl_MAX_STRING_SIZE : (Str.ofString "_MAX_STRING_SIZE", some (.int 40 597)) ∈ gtab := List.mem_of_getElem? (i := 3) rfl
theorem gl_MOVE_COST : (Str.ofString "_MOVE_COST", some (.int 2 599)) ∈ gtab := List.mem_of_getElem? (i := 4) rfl
theorem gl_CASE_COST : (Str.ofString "_CASE_COST", some (.int 1 601)) ∈ gtab := List.mem_of_getElem? (i := 5) rfl
theorem gl_substitution_cost : (Str.ofString "_substitution_cost", some (.ref 201)) ∈ gtab := List.mem_of_getElem? (i := 6) rfl
theorem gl_levenshtein_distance : (Str.ofString "_levenshtein_distance", some (.ref 208)) ∈ gtab := List.mem_of_getElem? (i := 7) rfl
theorem gl_law_numbers : (Str.ofString "_law_numbers", some (.ref 215)) ∈ gtab := List.mem_of_getElem? (i := 8) rfl
theorem gl_law_members : (Str.ofString "_law_members", some (.ref 220)) ∈ gtab := List.mem_of_getElem? (i := 9) rfl
theorem gl_law_kept : (Str.ofString "_law_kept", some (.ref 225)) ∈ gtab := List.mem_of_getElem? (i := 10) rfl
theorem gl_law_table : (Str.ofString "_law_table", some (.ref 232)) ∈ gtab := List.mem_of_getElem? (i := 11) rfl
theorem gl_law_whole : (Str.ofString "_law_whole", some (.ref 237)) ∈ gtab := List.mem_of_getElem? (i := 12) rfl
theorem gl_law_pairs : (Str.ofString "_law_pairs", some (.ref 242)) ∈ gtab := List.mem_of_getElem? (i := 13) rfl
theorem gl_name_disallowed_re : (Str.ofString "_name_disallowed_re", some (.ref 48)) ∈ gtab := List.mem_of_getElem? (i := 14) rfl
theorem gl_value_disallowed_re : (Str.ofString "_value_disallowed_re", some (.ref 53)) ∈ gtab := List.mem_of_getElem? (i := 15) rfl
theorem gl_len : (Str.ofString "len", (none : Option Value)) ∈ gtab := List.mem_of_getElem? (i := 16) rfl
theorem gl_range : (Str.ofString "range", (none : Option Value)) ∈ gtab := List.mem_of_getElem? (i := 17) rfl
theorem gl_set : (Str.ofString "set", (none : Option Value)) ∈ gtab := List.mem_of_getElem? (i := 18) rfl
theorem gl_sum : (Str.ofString "sum", (none : Option Value)) ∈ gtab := List.mem_of_getElem? (i := 19) rfl
theorem gl_type : (Str.ofString "type", (none : Option Value)) ∈ gtab := List.mem_of_getElem? (i := 20) rfl
theorem gl_int : (Str.ofString "int", (none : Option Value)) ∈ gtab := List.mem_of_getElem? (i := 21) rfl
theorem gl_str : (Str.ofString "str", (none : Option Value)) ∈ gtab := List.mem_of_getElem? (i := 22) rfl
theorem gl_list : (Str.ofString "list", (none : Option Value)) ∈ gtab := List.mem_of_getElem? (i := 23) rfl
theorem gl_min : (Str.ofString "min", (none : Option Value)) ∈ gtab := List.mem_of_getElem? (i := 24) rfl
theorem gl_hex : (Str.ofString "hex", (none : Option Value)) ∈ gtab := List.mem_of_getElem? (i := 25) rfl
theorem gl_enumerate : (Str.ofString "enumerate", (none : Option Value)) ∈ gtab := List.mem_of_getElem? (i := 26) rfl
theorem bb_len : bootBuiltins (Str.ofString "len") = some (.builtin "len") := by kernel_rfl
theorem bb_range : bootBuiltins (Str.ofString "range") = some (.type "range") := by kernel_rfl
theorem bb_set : bootBuiltins (Str.ofString "set") = some (.type "set") := by kernel_rfl
theorem bb_sum : bootBuiltins (Str.ofString "sum") = some (.builtin "sum") := by kernel_rfl
theorem bb_type : bootBuiltins (Str.ofString "type") = some (.type "type") := by kernel_rfl
theorem bb_int : bootBuiltins (Str.ofString "int") = some (.type "int") := by kernel_rfl
theorem bb_str : bootBuiltins (Str.ofString "str") = some (.type "str") := by kernel_rfl
theorem bb_list : bootBuiltins (Str.ofString "list") = some (.type "list") := by kernel_rfl
theorem bb_min : bootBuiltins (Str.ofString "min") = some (.builtin "min") := by kernel_rfl
theorem bb_hex : bootBuiltins (Str.ofString "hex") = some (.builtin "hex") := by kernel_rfl
theorem bb_enumerate : bootBuiltins (Str.ofString "enumerate") = some (.type "enumerate") := by kernel_rfl
end Mine
end
noncomputable section
open PySem PySem.W PySem.Calls PyProof.Rows
namespace Mine

abbrev MM (w : World) : Model := model PySem.Challenge.pw_rl0113_01 w
abbrev Gm := Addr → Option Obj

inductive PV where
  | none
  | bool (b : Bool)
  | int (i : Int)
  | str (s : Str)
  | val (v : Value)
  | list (l : List PV)
  | tup (l : List PV)
  | range (a b c : Int)
  | set (n : Nat)
  | emp
  | obj (l : Addr)
  | hdr (l : List (Str × Str))
  | mut (a : Addr) (l : List PV)

def hents (l : List (Str × Str)) : List PV := l.map fun e => .tup [.str e.1, .str e.2]

def PV.fz : PV → Bool
  | .mut _ _ => false
  | _ => true

mutual
inductive Rep (g : Gm) : Value → PV → Prop
  | none : Rep g .none .none
  | bool (b : Bool) : Rep g (.bool b) (.bool b)
  | int (i : Int) (t : Tok) : Rep g (.int i t) (.int i)
  | str (x : Str) (t : Tok) : Rep g (.str x t) (.str x)
  | val (v : Value) : Rep g v (.val v)
  | list {a : Addr} {o : Obj} {vs : Array Value} {n : Nat} {l : List PV} (h : g a = some o) (hc : o.cls = .type "list") (hd : o.data = .seq vs n) (r : Reps g vs.toList l) : Rep g (.ref a) (.list l)
  | tup {a : Addr} {n : Nat} {vs : Array Value} {l : List PV} (h : g a = some { cls := .type "tuple", data := .seq vs n }) (r : Reps g vs.toList l) : Rep g (.ref a) (.tup l)
  | range {r : Addr} {a b c : Int} {t u v : Tok} (h : g r = some { cls := .type "range", dict := none, data := .fields #[.int a t, .int b u, .int c v], slots := #[] }) : Rep g (.ref r) (.range a b c)
  | set {a : Addr} {o : Obj} {es : Array (Int × Value)} {ep : Nat} {t : SetTable} (h : g a = some o) (hex : o.ExactSet) (hd : o.data = .set es ep t) (hf : t.fits es.size = true) : Rep g (.ref a) (.set es.size)
  | emp {a : Addr} (h : g a = some { cls := .type "dict", data := .dict #[] }) (hs : (a == sysModules) = false) : Rep g (.ref a) .emp
  | obj {x d l : Addr} {hh : Int} {tk : Tok} {n : Nat} (hx : g x = some { cls := .ref 182, dict := some d, data := .plain }) (hd : g d = some { cls := .type "dict", data := .dict #[⟨hh, .str (Str.ofString "_headers") tk, .ref l⟩] n }) : Rep g (.ref x) (.obj l)
  | hdr {x l : Addr} {ents : List (Str × Str)} (hx : Rep g (.ref x) (.obj l)) (hl : Rep g (.ref l) (.list (hents ents))) : Rep g (.ref x) (.hdr ents)
inductive Reps (g : Gm) : List Value → List PV → Prop
  | nil : Reps g [] []
  | cons {v : Value} {p : PV} {vs : List Value} {ps : List PV} (h : Rep g v p) (r : Reps g vs ps) : Reps g (v :: vs) (p :: ps)
end

mutual
theorem Rep.mono {g g' : Gm} (hs : ∀ a o, g a = some o → g' a = some o) : ∀ {v : Value} {p : PV}, Rep g v p → Rep g' v p
  | _, _, .none => .none
  | _, _, .bool b => .bool b
  | _, _, .int i t => .int i t
  | _, _, .str x t => .str x t
  | _, _, .val v => .val v
  | _, _, .list h hc hd r => .list (hs _ _ h) hc hd (Reps.mono hs r)
  | _, _, .tup h r => .tup (hs _ _ h) (Reps.mono hs r)
  | _, _, .range h => .range (hs _ _ h)
  | _, _, .set h hex hd hf => .set (hs _ _ h) hex hd hf
  | _, _, .emp h hs' => .emp (hs _ _ h) hs'
  | _, _, .obj hx hd => .obj (hs _ _ hx) (hs _ _ hd)
  | _, _, .hdr hx hl => .hdr (Rep.mono hs hx) (Rep.mono hs hl)
theorem Reps.mono {g g' : Gm} (hs : ∀ a o, g a = some o → g' a = some o) : ∀ {vs : List Value} {ps : List PV}, Reps g vs ps → Reps g' vs ps
  | _, _, .nil => .nil
  | _, _, .cons h r => .cons (Rep.mono hs h) (Reps.mono hs r)
end

theorem Reps.length {g : Gm} : ∀ {vs : List Value} {ps : List PV}, Reps g vs ps → vs.length = ps.length
  | _, _, .nil => rfl
  | _, _, .cons _ r => by simp [Reps.length r]
theorem Reps.append {g : Gm} : ∀ {vs ws : List Value} {ps qs : List PV}, Reps g vs ps → Reps g ws qs → Reps g (vs ++ ws) (ps ++ qs)
  | _, _, _, _, .nil, k => k
  | _, _, _, _, .cons h r, k => .cons h (Reps.append r k)
theorem Reps.get {g : Gm} : ∀ {vs : List Value} {ps : List PV}, Reps g vs ps → ∀ {i : Nat} {p : PV}, ps[i]? = some p → ∃ v, vs[i]? = some v ∧ Rep g v p
  | _, _, .nil, i, p, e => by simp at e
  | _, _, .cons (v := v) h r, 0, p, e => by simp at e; subst e; exact ⟨v, rfl, h⟩
  | _, _, .cons h r, i + 1, p, e => by simp at e; obtain ⟨v, a, b⟩ := Reps.get r e; exact ⟨v, by simpa using a, b⟩
theorem Reps.get' {g : Gm} : ∀ {vs : List Value} {ps : List PV}, Reps g vs ps → ∀ {i : Nat} {v : Value}, vs[i]? = some v → ∃ p, ps[i]? = some p ∧ Rep g v p
  | _, _, .nil, i, p, e => by simp at e
  | _, _, .cons (p := p) h r, 0, v, e => by simp at e; subst e; exact ⟨p, rfl, h⟩
  | _, _, .cons h r, i + 1, p, e => by simp at e; obtain ⟨v, a, b⟩ := Reps.get' r e; exact ⟨v, by simpa using a, b⟩
theorem Reps.take {g : Gm} : ∀ {vs : List Value} {ps : List PV}, Reps g vs ps → ∀ k : Nat, Reps g (vs.take k) (ps.take k)
  | _, _, _, 0 => by simp; exact .nil
  | _, _, .nil, k + 1 => by simp; exact .nil
  | _, _, .cons h r, k + 1 => by simp; exact .cons h (Reps.take r k)
theorem Reps.drop {g : Gm} : ∀ {vs : List Value} {ps : List PV}, Reps g vs ps → ∀ k : Nat, Reps g (vs.drop k) (ps.drop k)
  | _, _, h, 0 => by simpa using h
  | _, _, .nil, k + 1 => by simp; exact .nil
  | _, _, .cons h r, k + 1 => by simp; exact Reps.drop r k
theorem Reps.snoc {g : Gm} {vs : List Value} {ps : List PV} {v : Value} {p : PV} (h : Reps g vs ps) (k : Rep g v p) : Reps g (vs ++ [v]) (ps ++ [p]) := h.append (.cons k .nil)
theorem Reps.set {g : Gm} : ∀ {vs : List Value} {ps : List PV}, Reps g vs ps → ∀ (i : Nat) {v : Value} {p : PV}, Rep g v p → Reps g (vs.set i v) (ps.set i p)
  | _, _, .nil, i, _, _, _ => by simp; exact .nil
  | _, _, .cons h r, 0, _, _, k => by simp; exact .cons k r
  | _, _, .cons h r, i + 1, _, _, k => by simp; exact .cons h (Reps.set r i k)

def RepT (h : Heap) (g : Gm) (v : Value) : PV → Prop
  | .mut a l => v = .ref a ∧ ∃ vs n, h.get? a = some { cls := .type "list", data := .seq vs n } ∧ Reps g vs.toList l
  | p => Rep g v p

theorem RepT.fz {h : Heap} {g : Gm} {v : Value} : ∀ {p : PV}, RepT h g v p → p.fz = true → Rep g v p
  | .none, r, _ => r
  | .bool _, r, _ => r
  | .int _, r, _ => r
  | .str _, r, _ => r
  | .val _, r, _ => r
  | .list _, r, _ => r
  | .tup _, r, _ => r
  | .range _ _ _, r, _ => r
  | .set _, r, _ => r
  | .emp, r, _ => r
  | .obj _, r, _ => r
  | .hdr _, r, _ => r
  | .mut _ _, _, e => nomatch e
theorem Rep.T {h : Heap} {g : Gm} {v : Value} : ∀ {p : PV}, Rep g v p → RepT h g v p
  | .none, r => r
  | .bool _, r => r
  | .int _, r => r
  | .str _, r => r
  | .val _, r => r
  | .list _, r => r
  | .tup _, r => r
  | .range _ _ _, r => r
  | .set _, r => r
  | .emp, r => r
  | .obj _, r => r
  | .hdr _, r => r
  | .mut _ _, r => nomatch r
theorem RepT.mono {h h' : Heap} {g g' : Gm} {v : Value} (hk : ∀ b o, h.get? b = some o → h'.get? b = some o) (hs : ∀ a o, g a = some o → g' a = some o) : ∀ {p : PV}, RepT h g v p → RepT h' g' v p
  | .none, r => Rep.mono hs (p := .none) r
  | .bool _, r => Rep.mono hs (p := .bool _) r
  | .int _, r => Rep.mono hs (p := .int _) r
  | .str _, r => Rep.mono hs (p := .str _) r
  | .val _, r => Rep.mono hs (p := .val _) r
  | .list _, r => Rep.mono hs (p := .list _) r
  | .tup _, r => Rep.mono hs (p := .tup _) r
  | .range _ _ _, r => Rep.mono hs (p := .range _ _ _) r
  | .set _, r => Rep.mono hs (p := .set _) r
  | .emp, r => Rep.mono hs (p := .emp) r
  | .obj _, r => Rep.mono hs (p := .obj _) r
  | .hdr _, r => Rep.mono hs (p := .hdr _) r
  | .mut _ _, ⟨e, vs, n, a, b⟩ => ⟨e, vs, n, hk _ _ a, b.mono hs⟩

/-- the items of a value that is read as a list -/
def PV.items : PV → Option (List PV)
  | .list l => some l
  | .mut _ l => some l
  | _ => Option.none

theorem RepT.asList {h : Heap} {g : Gm} {v : Value} (le : ∀ a o, g a = some o → h.get? a = some o) : ∀ {p : PV} {l : List PV}, RepT h g v p → p.items = some l → ∃ a vs, v = .ref a ∧ h.IsList a vs ∧ Reps g vs.toList l
  | .list l, _, r, e => by
    cases e
    cases (show Rep g v (.list _) from r) with
    | list h1 hc hd rs => exact ⟨_, _, rfl, ⟨_, le _ _ h1, hc, _, hd⟩, rs⟩
  | .mut a l, _, ⟨e1, vs, n, e2, rs⟩, e => by cases e; exact ⟨a, vs, e1, ⟨_, e2, rfl, n, rfl⟩, rs⟩

/-! ## growing states -/
structure Grow (s : Shared) (g : Gm) (s' : Shared) (g' : Gm) : Prop where
  keeps : Keeps s s'
  sub : ∀ a o, g a = some o → g' a = some o
  le : ∀ a o, g' a = some o → s'.heap.get? a = some o
  fresh : ∀ a o, g' a = some o → g a = none → s.heap.get? a = none

theorem keeps_refl (s : Shared) : Keeps s s := ⟨s.heap, s.toks, rfl, fun _ _ e => e⟩
theorem keeps_trans {s s' s'' : Shared} (a : Keeps s s') (b : Keeps s' s'') : Keeps s s'' := by
  obtain ⟨h1, t1, rfl, k1⟩ := a
  obtain ⟨h2, t2, rfl, k2⟩ := b
  exact ⟨h2, t2, rfl, fun b o e => k2 b o (k1 b o e)⟩
theorem keeps_get {s s' : Shared} (a : Keeps s s') : ∀ b o, s.heap.get? b = some o → s'.heap.get? b = some o := by
  obtain ⟨h1, t1, rfl, k1⟩ := a
  exact k1

def Le (g : Gm) (h : Heap) : Prop := ∀ a o, g a = some o → h.get? a = some o

theorem Grow.refl {s : Shared} {g : Gm} (le : Le g s.heap) : Grow s g s g := ⟨keeps_refl s, fun _ _ e => e, le, fun a o e1 e2 => by rw [e1] at e2; cases e2⟩
theorem Grow.trans {s s' s'' : Shared} {g g' g'' : Gm} (a : Grow s g s' g') (b : Grow s' g' s'' g'') : Grow s g s'' g'' := by
  refine ⟨keeps_trans a.keeps b.keeps, fun x o e => b.sub x o (a.sub x o e), b.le, fun x o e1 e2 => ?_⟩
  cases h : g' x with
  | some o' => exact a.fresh x o' h e2
  | none =>
    have := b.fresh x o e1 h
    cases h2 : s.heap.get? x with
    | none => rfl
    | some o' => rw [keeps_get a.keeps x o' h2] at this; cases this
theorem Grow.get {s s' : Shared} {g g' : Gm} (G : Grow s g s' g') : ∀ b o, s.heap.get? b = some o → s'.heap.get? b = some o := keeps_get G.keeps
/-- only the heap grows -/
theorem Grow.keep {s : Shared} {g : Gm} {h' : Heap} {tk : Nat} (le : Le g s.heap) (k : ∀ b o, s.heap.get? b = some o → h'.get? b = some o) : Grow s g { s with heap := h', toks := tk } g :=
  ⟨⟨h', tk, rfl, k⟩, fun _ _ e => e, fun a o e => k a o (le a o e), fun a o e1 e2 => by rw [e1] at e2; cases e2⟩
theorem Grow.toks {s : Shared} {g : Gm} (le : Le g s.heap) (tk : Nat) : Grow s g { s with toks := tk } g := Grow.keep le fun _ _ e => e

def gadd (g : Gm) (a : Addr) (o : Obj) : Gm := fun b => if b = a then some o else g b
theorem gadd_self {g : Gm} {a : Addr} {o : Obj} : gadd g a o a = some o := by simp [gadd]
theorem gadd_ne {g : Gm} {a b : Addr} {o : Obj} (h : b ≠ a) : gadd g a o b = g b := by simp [gadd, h]

/-- a new object enters the frozen part -/
theorem Grow.new {s : Shared} {g : Gm} {h' : Heap} {tk : Nat} {a : Addr} {o : Obj} (le : Le g s.heap) (k : ∀ b o, s.heap.get? b = some o → h'.get? b = some o) (ha : s.heap.get? a = none) (ho : h'.get? a = some o) :
    Grow s g { s with heap := h', toks := tk } (gadd g a o) := by
  refine ⟨⟨h', tk, rfl, k⟩, fun b o' e => ?_, fun b o' e => ?_, fun b o' e1 e2 => ?_⟩
  · rw [gadd_ne]; exact e
    rintro rfl
    rw [le _ _ e] at ha; cases ha
  · by_cases q : b = a
    · subst q; rw [gadd_self] at e; cases e; exact ho
    · rw [gadd_ne q] at e; exact k _ _ (le _ _ e)
  · by_cases q : b = a
    · subst q; exact ha
    · rw [gadd_ne q] at e1; rw [e1] at e2; cases e2
theorem get_size_none (h : Heap) : h.get? h.objs.size = none := by
  cases e : h.get? h.objs.size with
  | none => rfl
  | some o => exact absurd (Heap.lt_size e) (Nat.lt_irrefl _)
theorem Grow.push {s : Shared} {g : Gm} {tk : Nat} {o : Obj} (le : Le g s.heap) (hf : o.isFreed = false := by rfl) :
    Grow s g { s with heap := s.heap.push o, toks := tk } (gadd g s.heap.objs.size o) :=
  Grow.new le (fun _ _ e => Heap.get?_push_of_some _ e) (get_size_none _) (Heap.get?_push_size _ hf)

/-! ## names -/
def Sees (h : Heap) (env : Env) (x : Str) (v : Value) : Prop :=
  (env.kindOf x = some .local ∧ ∃ m, h.Ns env.locals m ∧ m x = some v) ∨
  ((env.kindOf x = some .cell ∨ (env.kindOf x = some .free ∧ (x == ("__classdict__" : Str)) = false)) ∧ ∃ c, env.cells.lookup x = some c ∧ h.IsCell c (some v))

theorem Sees.mono {h h' : Heap} {env : Env} {x : Str} {v : Value} (k : ∀ b o, h.get? b = some o → h'.get? b = some o) : Sees h env x v → Sees h' env x v
  | .inl ⟨a, m, b, c⟩ => .inl ⟨a, m, b.keeps k, c⟩
  | .inr ⟨a, c, b, d⟩ => .inr ⟨a, c, b, d.keeps k⟩

theorem Sees.load {M : Model} {A : Around} {E : Value → Shared → Prop} {s : Shared} {env : Env} {x : Str} {v : Value} {Q : Value → Shared → Prop} (hk : env.scope.kind = .function) (h : Sees s.heap env x v) (q : Q v s) : wpAny M A (loadName env x) Q E s := by
  rcases h with ⟨a, m, b, c⟩ | ⟨a | ⟨a, a'⟩, c, b, d⟩
  · exact wpAny_loadName_local hk a b c q
  · exact wpAny_loadName_cell hk a b d q
  · exact wpAny_loadName_free hk a b d q a'

/-! ## what is known of the state -/
structure Base (w : World) (h : Heap) : Prop where
  k : (KK w.params).In h
  glob : ∃ mg, h.Ns mainGlobals mg ∧ ∀ p ∈ gtab, mg p.1 = p.2
  blt : ∃ mb, h.Ns builtinsNs mb ∧ ∀ x : Str, x ≠ "__name__" → mb x = bootBuiltins x
  nolimit : h.NoLimit
  nodigits : ∃ mc, h.Ns cStatics mc ∧ mc "sys.int_max_str_digits" = none

theorem Base.mono {w : World} {h h' : Heap} (B : Base w h) (k : ∀ b o, h.get? b = some o → h'.get? b = some o) : Base w h' where
  k := B.k.keeps k
  glob := let ⟨m, a, b⟩ := B.glob; ⟨m, a.keeps k, b⟩
  blt := let ⟨m, a, b⟩ := B.blt; ⟨m, a.keeps k, b⟩
  nolimit := B.nolimit.keeps k
  nodigits := let ⟨m, a, b⟩ := B.nodigits; ⟨m, a.keeps k, b⟩

abbrev Vars := List (Str × PV)

structure Inv (w : World) (s : Shared) (g : Gm) (env : Env) (V : Vars) : Prop where
  le : Le g s.heap
  base : Base w s.heap
  kind : env.scope.kind = .function
  globals : env.globals = mainGlobals
  builtins : env.builtins = builtinsNs
  vars : ∀ p ∈ V, ∃ v, Sees s.heap env p.1 v ∧ RepT s.heap g v p.2

theorem Inv.grow {w : World} {s s' : Shared} {g g' : Gm} {env : Env} {V : Vars} (I : Inv w s g env V) (G : Grow s g s' g') : Inv w s' g' env V where
  le := G.le
  base := I.base.mono G.get
  kind := I.kind
  globals := I.globals
  builtins := I.builtins
  vars := fun p hp => let ⟨v, a, b⟩ := I.vars p hp; ⟨v, a.mono G.get, b.mono G.get G.sub⟩

/-- the room that is left around a call -/
def AOk (k : Nat) (A : Around) : Prop := A.handled = none ∧ A.depth + k ≤ 900 ∧ A.units + 10 * k ≤ 9000
theorem AOk.deeper {k : Nat} {A : Around} {env : Env} (h : AOk (k + 1) A) : AOk k (A.deeper env) := ⟨h.1, by have := h.2.1; show A.depth + 1 + k ≤ 900; omega, by have := h.2.2; show A.units + 3 + 10 * k ≤ 9000; omega⟩
theorem AOk.less {k j : Nat} {A : Around} (h : AOk k A) (e : j ≤ k := by omega) : AOk j A := ⟨h.1, by have := h.2.1; omega, by have := h.2.2; omega⟩
theorem AOk.room {k : Nat} {A : Around} (h : AOk k A) : A.depth < recursionLimit := by have := h.2.1; show A.depth < 1000; omega
theorem AOk.units {k : Nat} {A : Around} (h : AOk k A) : A.units < cLine := by have := h.2.2; show A.units < 9900; omega

/-! ## the triples -/
def Ex (w : World) (A : Around) (env : Env) (V : Vars) (e : Expr) (p : PV) : Prop :=
  ∀ (s : Shared) (g : Gm) (E : Value → Shared → Prop), Inv w s g env V →
    wpAny (MM w) A (eval e env) (fun v s' => ∃ g', Grow s g s' g' ∧ RepT s'.heap g' v p) E s

def Tr (w : World) (A : Around) (env : Env) (V : Vars) (e : Expr) (b : Bool) : Prop :=
  ∀ (s : Shared) (g : Gm) (E : Value → Shared → Prop), Inv w s g env V →
    wpAny (MM w) A (isTrue e env (eval e env)) (fun c s' => c = b ∧ ∃ g', Grow s g s' g') E s

def Exs (w : World) (A : Around) (env : Env) (V : Vars) (pos : Pos) (es : List Expr) (ps : List PV) : Prop :=
  ∀ (s : Shared) (g : Gm) (E : Value → Shared → Prop), Inv w s g env V →
    wpAny (MM w) A (spliced (backTo pos (starEach es env))) (fun vs s' => ∃ g', Grow s g s' g' ∧ Reps g' vs ps) E s

/-- what a call gives back -/
def Fn (w : World) (A : Around) (f : Value) (ps : List PV) (p : PV) : Prop :=
  ∀ (s : Shared) (g : Gm) (vs : List Value) (E : Value → Shared → Prop), Le g s.heap → Base w s.heap → Reps g vs ps →
    wpAny (MM w) A (call f vs) (fun v s' => ∃ g', Grow s g s' g' ∧ Rep g' v p) E s

section
variable {w : World} {A : Around} {env : Env} {V : Vars} {s : Shared} {g : Gm} {E : Value → Shared → Prop}

theorem Ex.run {e : Expr} {p : PV} {Q : Value → Shared → Prop} (h : Ex w A env V e p) (I : Inv w s g env V)
    (k : ∀ v s' g', Grow s g s' g' → RepT s'.heap g' v p → Inv w s' g' env V → Q v s') : wpAny (MM w) A (eval e env) Q E s :=
  wpAny_mono (h s g E I) (fun v s' ⟨g', G, R⟩ => k v s' g' G R (I.grow G)) fun _ _ x => x
theorem Tr.run {e : Expr} {b : Bool} {Q : Bool → Shared → Prop} (h : Tr w A env V e b) (I : Inv w s g env V)
    (k : ∀ s' g', Grow s g s' g' → Inv w s' g' env V → Q b s') : wpAny (MM w) A (isTrue e env (eval e env)) Q E s :=
  wpAny_mono (h s g E I) (fun _ s' ⟨e, g', G⟩ => e ▸ k s' g' G (I.grow G)) fun _ _ x => x
theorem Exs.run {pos : Pos} {es : List Expr} {ps : List PV} {Q : List Value → Shared → Prop} (h : Exs w A env V pos es ps) (I : Inv w s g env V)
    (k : ∀ vs s' g', Grow s g s' g' → Reps g' vs ps → Inv w s' g' env V → Q vs s') : wpAny (MM w) A (spliced (backTo pos (starEach es env))) Q E s :=
  wpAny_mono (h s g E I) (fun v s' ⟨g', G, R⟩ => k v s' g' G R (I.grow G)) fun _ _ x => x
theorem Fn.run {f : Value} {ps : List PV} {p : PV} {vs : List Value} {Q : Value → Shared → Prop} (h : Fn w A f ps p) (le : Le g s.heap) (B : Base w s.heap) (R : Reps g vs ps)
    (k : ∀ v s' g', Grow s g s' g' → Rep g' v p → Q v s') : wpAny (MM w) A (call f vs) Q E s :=
  wpAny_mono (h s g vs E le B R) (fun v s' ⟨g', G, R⟩ => k v s' g' G R) fun _ _ x => x
end

end Mine
end
noncomputable section
open PySem PySem.W PySem.Calls PyProof.Rows
namespace Mine

section
variable {w : World} {A : Around} {env : Env} {V : Vars}

/-! ### names and constants -/
theorem ex_name {x : Str} {pos : Pos} {p : PV} (h : (x, p) ∈ V) (hd : (x == ("__debug__" : Str)) = false := by decide) : Ex w A env V (.Name x pos) p := by
  intro s g E I
  obtain ⟨v, a, b⟩ := I.vars _ h
  exact wpAny_Name (a.load I.kind ⟨g, Grow.refl I.le, b⟩) hd

theorem ex_glob {x : Str} {pos : Pos} {v : Value} {p : PV} (h : (x, some v) ∈ gtab) (hp : ∀ g, Rep g v p) (hx : env.kindOf x = some .globalImplicit) (hd : (x == ("__debug__" : Str)) = false := by decide) : Ex w A env V (.Name x pos) p := by
  intro s g E I
  obtain ⟨mg, a, b⟩ := I.base.glob
  exact Name_function_global I.kind hx (loadGlobal_global (mg := mg) (I.globals ▸ a) (b _ h) ⟨g, Grow.refl I.le, (hp g).T⟩) hd

theorem ex_blt {x : Str} {pos : Pos} {v : Value} (h : (x, none) ∈ gtab) (hb : bootBuiltins x = some v) (hx : env.kindOf x = some .globalImplicit) (hn : x ≠ "__name__" := by decide) (hd : (x == ("__debug__" : Str)) = false := by decide) : Ex w A env V (.Name x pos) (.val v) := by
  intro s g E I
  obtain ⟨mg, a, b⟩ := I.base.glob
  obtain ⟨mb, a', b'⟩ := I.base.blt
  exact Name_function_global I.kind hx (loadGlobal_builtin (mg := mg) (mb := mb) (I.globals ▸ a) (b _ h) (I.builtins ▸ a') ((b' x hn).trans hb) ⟨g, Grow.refl I.le, Rep.val v⟩) hd

theorem ex_int {i : Int} {k : Nat} {pos : Pos} : Ex w A env V (.Constant (.int i) k pos) (.int i) := fun _ g _ I => wpAny_Constant_int ⟨g, Grow.toks I.le _, Rep.int _ _⟩
theorem ex_str {x : Str} {k : Nat} {pos : Pos} : Ex w A env V (.Constant (.str x) k pos) (.str x) := fun _ g _ I => wpAny_Constant_str ⟨g, Grow.toks I.le _, Rep.str _ _⟩
theorem ex_bool {b : Bool} {k : Nat} {pos : Pos} : Ex w A env V (.Constant (.bool b) k pos) (.bool b) := fun _ g _ I => wpAny_Constant_bool ⟨g, Grow.refl I.le, Rep.bool _⟩
theorem ex_none {k : Nat} {pos : Pos} : Ex w A env V (.Constant .none k pos) .none := fun _ g _ I => wpAny_Constant_none ⟨g, Grow.refl I.le, Rep.none⟩

theorem Ex.eq {e : Expr} {p q : PV} (h : Ex w A env V e p) (q' : p = q) : Ex w A env V e q := q' ▸ h
theorem Tr.eq {e : Expr} {p q : Bool} (h : Tr w A env V e p) (q' : p = q) : Tr w A env V e q := q' ▸ h

/-! ### operators on ints -/
def Bi (w : World) (A : Around) (op : Operator) (p q r : PV) : Prop :=
  ∀ (s : Shared) (g : Gm) (v u : Value) (E : Value → Shared → Prop), Le g s.heap → Base w s.heap → RepT s.heap g v p → RepT s.heap g u q →
    wpAny (MM w) A (binaryOp op v u) (fun x s' => ∃ g', Grow s g s' g' ∧ RepT s'.heap g' x r) E s

theorem ex_bin {l r : Expr} {op : Operator} {pos : Pos} {p q t : PV} (hb : Bi w A op p q t) (hl : Ex w A env V l p) (hr : Ex w A env V r q) : Ex w A env V (.BinOp l op r pos) t := by
  intro s g E I
  refine wpAny_BinOp (hl.run I fun v s₁ g₁ G₁ R₁ I₁ => hr.run I₁ fun u s₂ g₂ G₂ R₂ I₂ => ?_)
  refine wpAny_mono (hb s₂ g₂ v u E I₂.le I₂.base (R₁.mono G₂.get G₂.sub) R₂) (fun x s' ⟨g', G, R⟩ => ⟨g', (G₁.trans G₂).trans G, R⟩) fun _ _ x => x
theorem bi_add {i j : Int} : Bi w A .Add (.int i) (.int j) (.int (i + j)) := by
  intro s g v u E le B R₁ R₂; cases (show Rep g v (.int i) from R₁); cases (show Rep g u (.int j) from R₂)
  exact add_int ⟨g, Grow.toks le _, Rep.int _ _⟩
theorem bi_sub {i j : Int} : Bi w A .Sub (.int i) (.int j) (.int (i - j)) := by
  intro s g v u E le B R₁ R₂; cases (show Rep g v (.int i) from R₁); cases (show Rep g u (.int j) from R₂)
  exact sub_int ⟨g, Grow.toks le _, Rep.int _ _⟩
theorem bi_mul {i j : Int} (h : IntMulOk i j) : Bi w A .Mult (.int i) (.int j) (.int (i * j)) := by
  intro s g v u E le B R₁ R₂; cases (show Rep g v (.int i) from R₁); cases (show Rep g u (.int j) from R₂)
  exact mul_int ⟨g, Grow.toks le _, Rep.int _ _⟩ h
theorem bi_and {i j : Int} : Bi w A .BitAnd (.int i) (.int j) (.int (Builtin.bitAnd i j)) := by
  intro s g v u E le B R₁ R₂; cases (show Rep g v (.int i) from R₁); cases (show Rep g u (.int j) from R₂)
  exact and_int ⟨g, Grow.toks le _, Rep.int _ _⟩
theorem bi_xor {i j : Int} : Bi w A .BitXor (.int i) (.int j) (.int (Builtin.bitXor i j)) := by
  intro s g v u E le B R₁ R₂; cases (show Rep g v (.int i) from R₁); cases (show Rep g u (.int j) from R₂)
  exact xor_int ⟨g, Grow.toks le _, Rep.int _ _⟩
theorem bi_shl {i j : Int} (h0 : 0 ≤ j) (h1 : j ≤ 1000000) (h2 : i.natAbs < 2 ^ 64) : Bi w A .LShift (.int i) (.int j) (.int (i * 2 ^ j.toNat)) := by
  intro s g v u E le B R₁ R₂; cases (show Rep g v (.int i) from R₁); cases (show Rep g u (.int j) from R₂)
  exact lshift_int_small h0 h1 h2 ⟨g, Grow.toks le _, Rep.int _ _⟩
theorem bi_shr {i j : Int} (h0 : 0 ≤ j) : Bi w A .RShift (.int i) (.int j) (.int (i.fdiv (2 ^ j.toNat))) := by
  intro s g v u E le B R₁ R₂; cases (show Rep g v (.int i) from R₁); cases (show Rep g u (.int j) from R₂)
  exact rshift_int h0 ⟨g, Grow.toks le _, Rep.int _ _⟩
theorem bi_mod {i j : Int} (h0 : j ≠ 0) : Bi w A .Mod (.int i) (.int j) (.int (i.fmod j)) := by
  intro s g v u E le B R₁ R₂; cases (show Rep g v (.int i) from R₁); cases (show Rep g u (.int j) from R₂)
  exact mod_int' h0 ⟨g, Grow.toks le _, Rep.int _ _⟩
theorem bi_pow {i j : Int} (h0 : 0 ≤ j) (h1 : ((Builtin.Int.intBits i : Nat) : Int) * j ≤ 2 ^ 27) : Bi w A .Pow (.int i) (.int j) (.int (i ^ j.toNat)) := by
  intro s g v u E le B R₁ R₂; cases (show Rep g v (.int i) from R₁); cases (show Rep g u (.int j) from R₂)
  exact pow_int h0 h1 ⟨g, Grow.toks le _, Rep.int _ _⟩

theorem ex_inv {x : Expr} {pos : Pos} {i : Int} (h : Ex w A env V x (.int i)) : Ex w A env V (.UnaryOp .Invert x pos) (.int (Builtin.bitNot i)) := by
  intro s g E I
  refine wpAny_UnaryOp (h.run I fun v s₁ g₁ G₁ R₁ I₁ => ?_)
  cases (show Rep g₁ v (.int i) from R₁)
  exact invert_int ⟨g₁, G₁.trans (Grow.toks I₁.le _), Rep.int _ _⟩
theorem ex_neg {x : Expr} {pos : Pos} {i : Int} (h : Ex w A env V x (.int i)) : Ex w A env V (.UnaryOp .USub x pos) (.int (-i)) := by
  intro s g E I
  refine wpAny_UnaryOp (h.run I fun v s₁ g₁ G₁ R₁ I₁ => ?_)
  cases (show Rep g₁ v (.int i) from R₁)
  exact neg_int ⟨g₁, G₁.trans (Grow.toks I₁.le _), Rep.int _ _⟩

/-! ### comparisons -/
def Cm (w : World) (A : Around) (op : CmpOp) (p q : PV) (b : Bool) : Prop :=
  ∀ (s : Shared) (g : Gm) (v u : Value) (E : Value → Shared → Prop), Le g s.heap → Base w s.heap → RepT s.heap g v p → RepT s.heap g u q →
    wpAny (MM w) A (compareOp op v u) (fun x s' => x = .bool b ∧ ∃ g', Grow s g s' g') E s

theorem ex_cmp {l r : Expr} {op : CmpOp} {pos : Pos} {p q : PV} {b : Bool} (hc : Cm w A op p q b) (hl : Ex w A env V l p) (hr : Ex w A env V r q) (hb : behindInMarks op r = false := by rfl) :
    Ex w A env V (.Compare l [op] [r] pos) (.bool b) := by
  intro s g E I
  refine wpAny_Compare1 (hl.run I fun v s₁ g₁ G₁ R₁ I₁ => hr.run I₁ fun u s₂ g₂ G₂ R₂ I₂ => ?_) hb
  refine wpAny_mono (hc s₂ g₂ v u E I₂.le I₂.base (R₁.mono G₂.get G₂.sub) R₂) (fun x s' ⟨e, g', G⟩ => ⟨g', (G₁.trans G₂).trans G, e ▸ Rep.bool _⟩) fun _ _ x => x
theorem tr_cmp {l r : Expr} {op : CmpOp} {pos : Pos} {p q : PV} {b : Bool} (hc : Cm w A op p q b) (hl : Ex w A env V l p) (hr : Ex w A env V r q) (hb : behindInMarks op r = false := by rfl) :
    Tr w A env V (.Compare l [op] [r] pos) b := by
  intro s g E I
  refine wpAny_isTrue_Compare1 (hl.run I fun v s₁ g₁ G₁ R₁ I₁ => hr.run I₁ fun u s₂ g₂ G₂ R₂ I₂ => ?_) hb
  refine wpAny_mono (hc s₂ g₂ v u E I₂.le I₂.base (R₁.mono G₂.get G₂.sub) R₂) (fun x s' ⟨e, g', G⟩ => ?_) fun _ _ x => x
  subst e
  exact wpAny_truthy_bool ⟨rfl, g', (G₁.trans G₂).trans G⟩

theorem cm_eq_int {i j : Int} : Cm w A .Eq (.int i) (.int j) (i == j) := by
  intro s g v u E le B R₁ R₂; cases (show Rep g v (.int i) from R₁); cases (show Rep g u (.int j) from R₂)
  exact eq_int ⟨rfl, g, Grow.refl le⟩
theorem cm_lt_int {i j : Int} : Cm w A .Lt (.int i) (.int j) (decide (i < j)) := by
  intro s g v u E le B R₁ R₂; cases (show Rep g v (.int i) from R₁); cases (show Rep g u (.int j) from R₂)
  exact lt_int ⟨rfl, g, Grow.refl le⟩
theorem cm_gt_int {i j : Int} : Cm w A .Gt (.int i) (.int j) (decide (j < i)) := by
  intro s g v u E le B R₁ R₂; cases (show Rep g v (.int i) from R₁); cases (show Rep g u (.int j) from R₂)
  exact gt_int ⟨rfl, g, Grow.refl le⟩
theorem cm_eq_str {x y : Str} : Cm w A .Eq (.str x) (.str y) (x == y) := by
  intro s g v u E le B R₁ R₂; cases (show Rep g v (.str x) from R₁); cases (show Rep g u (.str y) from R₂)
  exact eq_str ⟨rfl, g, Grow.refl le⟩

/-! ### truth -/
def Ty (w : World) (A : Around) (p : PV) (b : Bool) : Prop :=
  ∀ (s : Shared) (g : Gm) (v : Value) (E : Value → Shared → Prop), Le g s.heap → RepT s.heap g v p → wpAny (MM w) A (truthy v) (fun c s' => c = b ∧ ∃ g', Grow s g s' g') E s

theorem ty_int {i : Int} : Ty w A (.int i) (i != 0) := by
  intro s g v E le R; cases (show Rep g v (.int i) from R)
  exact truthy_int ⟨rfl, g, Grow.refl le⟩
theorem ty_bool {b : Bool} : Ty w A (.bool b) b := by
  intro s g v E le R; cases (show Rep g v (.bool b) from R)
  exact wpAny_truthy_bool ⟨rfl, g, Grow.refl le⟩
theorem ty_none : Ty w A .none false := by
  intro s g v E le R; cases (show Rep g v .none from R)
  exact fun _ _ _ => ⟨rfl, g, Grow.refl le⟩
theorem isEmpty_of {g : Gm} {vs : Array Value} {l : List PV} (r : Reps g vs.toList l) : vs.isEmpty = l.isEmpty := by
  have := r.length
  cases l with
  | nil => simp at this; simp [this]
  | cons p l => simp at this; simp [Array.isEmpty, this]
theorem ty_list {p : PV} {l : List PV} (hp : p.items = some l) (hs : l.length ≤ 1000000) : Ty w A p (!l.isEmpty) := by
  intro s g v E le R
  obtain ⟨a, vs, rfl, hl, rs⟩ := R.asList le hp
  refine wpAny_truthy_list hl (by have := rs.length; simp at this; omega) ⟨by rw [isEmpty_of rs], g, Grow.toks le _⟩

theorem tr_val {e : Expr} {p : PV} {b : Bool} (h : Ex w A env V e p) (t : Ty w A p b)
    (hw : PySem.isTrue e env (eval e env) = (do let v ← eval e env; standAt e.pos; holding [v] (truthy v)) := by rfl) : Tr w A env V e b := by
  intro s g E I
  refine isTrue_plain (h.run I fun v s₁ g₁ G₁ R₁ I₁ => wpAny_mono (t s₁ g₁ v E I₁.le R₁) (fun c s' ⟨e, g', G⟩ => ⟨e, g', G₁.trans G⟩) fun _ _ x => x) hw
theorem tr_not {x : Expr} {pos : Pos} {b : Bool} (h : Tr w A env V x b) : Tr w A env V (.UnaryOp .Not x pos) (!b) := by
  intro s g E I
  exact wpAny_isTrue_Not (h.run I fun s₁ g₁ G₁ I₁ => ⟨rfl, g₁, G₁⟩)

theorem ex_if {t b o : Expr} {pos : Pos} {c : Bool} {p : PV} (ht : Tr w A env V t c) (h1 : c = true → Ex w A env V b p) (h2 : c = false → Ex w A env V o p) : Ex w A env V (.IfExp t b o pos) p := by
  intro s g E I
  refine wpAny_IfExp (ht.run I fun s₁ g₁ G₁ I₁ => ?_)
  cases c with
  | true => exact (h1 rfl).run I₁ fun v s₂ g₂ G₂ R₂ I₂ => ⟨g₂, G₁.trans G₂, R₂⟩
  | false => exact (h2 rfl).run I₁ fun v s₂ g₂ G₂ R₂ I₂ => ⟨g₂, G₁.trans G₂, R₂⟩

/-! ### argument lists, displays -/
theorem exs_nil {pos : Pos} : Exs w A env V pos [] [] := fun _ g _ I => spliced_nil ⟨g, Grow.refl I.le, .nil⟩
theorem exs_cons {pos : Pos} {e : Expr} {es : List Expr} {p : PV} {ps : List PV} (h : Ex w A env V e p) (r : Exs w A env V pos es ps) (hp : p.fz = true := by rfl)
    (hn : backTo pos (starEach (e :: es) env) = (false, eval e env) :: backTo pos (starEach es env) := by rfl) : Exs w A env V pos (e :: es) (p :: ps) := by
  intro s g E I
  rw [hn]
  refine spliced_cons (h.run I fun v s₁ g₁ G₁ R₁ I₁ => ?_)
  exact r.run I₁ fun vs s₂ g₂ G₂ R₂ I₂ => ⟨g₂, G₁.trans G₂, .cons ((R₁.fz hp).mono G₂.sub) R₂⟩

theorem ex_list {es : List Expr} {pos : Pos} {ps : List PV} (h : Exs w A env V pos es ps) (hs : ps.length ≤ 1000 := by decide) : Ex w A env V (.List es pos) (.list ps) := by
  intro s g E I
  refine wpAny_List_spliced (h.run I fun vs s₁ g₁ G₁ R₁ I₁ => ⟨?_, gadd g₁ s₁.heap.objs.size { cls := .type "list", data := .seq vs.toArray }, G₁.trans (Grow.push I₁.le), ?_⟩)
  · rw [R₁.length]; exact Nat.le_trans hs (by decide)
  · have G₂ : Grow s₁ g₁ _ _ := Grow.push (tk := s₁.toks) (o := { cls := .type "list", data := .seq vs.toArray }) I₁.le
    exact Rep.list gadd_self rfl rfl (by simpa using R₁.mono G₂.sub)

theorem ex_tup {es : List Expr} {k : Nat} {pos : Pos} {ps : List PV} (h : Exs w A env V pos es ps) (hs : ps.length ≤ 1000 := by decide) : Ex w A env V (.Tuple es k pos) (.tup ps) := by
  intro s g E I
  refine wpAny_Tuple_spliced (h.run I fun vs s₁ g₁ G₁ R₁ I₁ => ⟨?_, gadd g₁ s₁.heap.objs.size { cls := .type "tuple", data := .seq vs.toArray }, G₁.trans (Grow.push I₁.le), ?_⟩)
  · rw [R₁.length]; exact Nat.le_trans hs (by decide)
  · have G₂ : Grow s₁ g₁ _ _ := Grow.push (tk := s₁.toks) (o := { cls := .type "tuple", data := .seq vs.toArray }) I₁.le
    exact Rep.tup gadd_self (by simpa using R₁.mono G₂.sub)

/-! ### lists -/
def PI (l : List Int) : List PV := l.map .int
def PS (l : List Str) : List PV := l.map .str
theorem Reps.ints {g : Gm} : ∀ {ns : List Int} {vs : List Value}, Reps g vs (PI ns) → IntsAre vs ns
  | [], _, r => by cases r; exact .nil
  | n :: ns, _, r => by
    cases r with
    | cons h r => cases h; exact .cons _ _ (Reps.ints (ns := ns) r)
theorem Reps.ofInts {g : Gm} : ∀ {ns : List Int} {vs : List Value}, IntsAre vs ns → Reps g vs (PI ns)
  | _, _, .nil => .nil
  | _, _, .cons n t r => .cons (.int n t) (Reps.ofInts r)
theorem Reps.strs {g : Gm} : ∀ {ns : List Str} {vs : List Value}, Reps g vs (PS ns) → StrsAre vs ns
  | [], _, r => by cases r; exact .nil
  | n :: ns, _, r => by
    cases r with
    | cons h r => cases h; exact .cons _ _ (Reps.strs (ns := ns) r)
theorem Reps.ofStrs {g : Gm} : ∀ {ns : List Str} {vs : List Value}, StrsAre vs ns → Reps g vs (PS ns)
  | _, _, .nil => .nil
  | _, _, .cons n t r => .cons (.str n t) (Reps.ofStrs r)

theorem bi_addL {p q : PV} {l m : List PV} (hp : p.items = some l) (hq : q.items = some m) (hs : l.length + m.length ≤ 1000000) : Bi w A .Add p q (.list (l ++ m)) := by
  intro s g v u E le B R₁ R₂
  obtain ⟨a, vs, rfl, hl, rs⟩ := R₁.asList le hp
  obtain ⟨b, ws, rfl, hm, rt⟩ := R₂.asList le hq
  obtain ⟨⟨cls, dd, data, sl⟩, ho, hc, n, hd⟩ := id hl
  obtain ⟨⟨cls2, dd2, data2, sl2⟩, ho2, hc2, n2, hd2⟩ := id hm
  simp only at hc hd hc2 hd2
  subst hc hd hc2 hd2
  have e1 := rs.length
  have e2 := rt.length
  simp at e1 e2
  refine concat_meets ⟨_, ho, rfl⟩ ⟨_, ho2, rfl⟩ noFill_list_add seq_list_add PySem.F.slot_list_add PySem.F.entry_list_add (PySem.F.args_list_add_2 _ _) (list_addW a b vs ws n n2 dd dd2 sl sl2 ?_) ⟨ho, ho2, ?_⟩
  · show vs.size + ws.size ≤ sizeLine
    rw [sizeLine_eq]; omega
  · refine ⟨gadd g s.heap.objs.size _, Grow.push le, Rep.list gadd_self rfl rfl ?_⟩
    have G : Grow s g _ _ := Grow.push (tk := s.toks) (o := { cls := .type "list", data := .seq (vs ++ ws) }) le
    simpa using (rs.append rt).mono G.sub

theorem fn_len {p : PV} {l : List PV} (hp : p = .list l) (hs : l.length ≤ 1000000) : Fn w A (.builtin "len") [p] (.int l.length) := by
  subst hp
  intro s g vs E le B R
  cases R with
  | cons h r =>
    cases r
    obtain ⟨a, ws, rfl, hl, rs⟩ := (h.T (h := s.heap)).asList le rfl
    have e1 := rs.length
    simp at e1
    refine len_list hl (by omega) ⟨g, Grow.toks le _, ?_⟩
    rw [e1]; exact .int _ _

theorem fn_range1 {n : Int} : Fn w A (.type "range") [.int n] (.range 0 n 1) := by
  intro s g vs E le B R
  cases R with
  | cons h r =>
    cases r; cases h
    exact call_range_1 ⟨gadd g s.heap.objs.size _, Grow.push le, .range gadd_self⟩
theorem fn_range2 {n m : Int} : Fn w A (.type "range") [.int n, .int m] (.range n m 1) := by
  intro s g vs E le B R
  cases R with
  | cons h r =>
    cases r with
    | cons h2 r =>
      cases r; cases h; cases h2
      exact call_range_2 ⟨gadd g s.heap.objs.size _, Grow.push le, .range gadd_self⟩
theorem fn_range3 {n m k : Int} (hk : k ≠ 0) (hp : Builtin.divisionGoesByPylong (m - n) k = false) : Fn w A (.type "range") [.int n, .int m, .int k] (.range n m k) := by
  intro s g vs E le B R
  cases R with
  | cons h r =>
    cases r with
    | cons h2 r =>
      cases r with
      | cons h3 r =>
        cases r; cases h; cases h2; cases h3
        exact call_range_3 hk ⟨gadd g s.heap.objs.size _, Grow.push le, .range gadd_self⟩ (.inl hp)

theorem fn_sum {ns : List Int} (hh : A.handled = none) : Fn w A (.builtin "sum") [.list (PI ns)] (.int ns.sum) := by
  intro s g vs E le B R
  cases R with
  | cons h r =>
    cases r
    obtain ⟨a, ws, rfl, hl, rs⟩ := (h.T (h := s.heap)).asList le rfl
    have hi := rs.ints
    obtain ⟨xs, e⟩ := hi.allInts.items
    have e' : ws = intItems xs := by simpa using e
    subst e'
    have := hi.numsOf
    rw [nums_intItems] at this
    refine sum_intListG hh hl fun h' tk t' hk => ⟨g, Grow.keep le hk, ?_⟩
    rw [preSum_eq, List.take_of_length_le (by simp), this]
    exact .int _ _

theorem fn_min {a b : Int} (hh : A.handled = none) : Fn w A (.builtin "min") [.int a, .int b] (.int (if b < a then b else a)) := by
  intro s g vs E le B R
  cases R with
  | cons h r =>
    cases r with
    | cons h2 r =>
      cases r; cases h; cases h2
      refine min_two_ints hh fun h' tk hk => ⟨g, Grow.keep le hk, ?_⟩
      split <;> exact .int _ _

end
end Mine
end
noncomputable section
open PySem PySem.W PySem.Calls PyProof.Rows
namespace Mine

/-! ### captured names -/
def capOk (names : List (Str × NameKind)) (env : Env) (y : Str) : Bool :=
  (names.lookup y == some .free) && (names.all fun z => z.2 != .cell || z.1 != y) && (env.kindOf y == some .cell || env.kindOf y == some .free) && (y == ("__classdict__" : Str)) == false
def capV (names : List (Str × NameKind)) (env : Env) (V : Vars) : Vars := V.filter fun q => capOk names env q.1
theorem mem_cap {names : List (Str × NameKind)} {env : Env} {V : Vars} {x : Str} {p : PV} (h : (x, p) ∈ V) (hc : capOk names env x = true) : (x, p) ∈ capV names env V := List.mem_filter.mpr ⟨h, hc⟩

noncomputable def clOf (env : Env) : List (Str × NameKind) → List (Str × Addr) → List (Str × Addr)
  | [], acc => acc
  | (n, k) :: r, acc => if k == .free then clOf env r ((n, (env.cells.lookup n).getD 0) :: acc) else clOf env r acc
def freeOk (names : List (Str × NameKind)) (env : Env) : Bool := names.all fun z => z.2 != .free || (env.cells.lookup z.1).isSome

theorem closure_eq {scope : Scope} {env : Env} (h : freeOk scope.names env = true) : closureFor scope env = pure (clOf env scope.names []) := by
  unfold closureFor
  have key : ∀ (names : List (Str × NameKind)) (acc : List (Str × Addr)), freeOk names env = true →
      (forIn names acc (fun (x : Str × NameKind) (r : List (Str × Addr)) => if (x.2 == NameKind.free) = true then do let a ← cellOf env x.1; pure (ForInStep.yield ((x.1, a) :: r)) else pure (ForInStep.yield r)) : Sem (List (Str × Addr))) = pure (clOf env names acc) := by
    intro names
    induction names with
    | nil => intro acc _; rfl
    | cons z r ih =>
      intro acc hf
      obtain ⟨n, k⟩ := z
      unfold freeOk at hf
      rw [List.all_cons, Bool.and_eq_true_iff] at hf
      rw [List.forIn_cons]
      unfold clOf
      by_cases hk : (k == NameKind.free) = true
      · have hk' : k = .free := by simpa using hk
        subst hk'
        have h1 : (env.cells.lookup n).isSome = true := by simpa using hf.1
        obtain ⟨c, hc⟩ := Option.isSome_iff_exists.mp h1
        simp only [hk, if_true]
        unfold cellOf
        rw [hc]
        exact ih _ hf.2
      · simp only [hk, if_false]
        exact ih _ hf.2
  have := key scope.names [] h
  show (do let r ← _; pure r : Sem (List (Str × Addr))) = _
  first
    | (rw [this]; rfl)
    | (refine Eq.trans ?_ this; simp)

theorem lookup_of_all {y : Str} {c : Addr} : ∀ {l : List (Str × Addr)}, (∀ e ∈ l, e.1 = y → e.2 = c) → (∃ e ∈ l, e.1 = y) → l.lookup y = some c
  | [], _, h => by obtain ⟨e, he, _⟩ := h; cases he
  | (n, d) :: r, ha, h => by
    rw [List.lookup_cons]
    by_cases q : y = n
    · subst q
      simp
      exact ha _ (.head _) rfl
    · have : (y == n) = false := by simpa using q
      rw [this]
      refine lookup_of_all (fun e he => ha e (.tail _ he)) ?_
      obtain ⟨e, he, hy⟩ := h
      cases he with
      | head => exact absurd hy.symm q
      | tail _ he => exact ⟨e, he, hy⟩
theorem clOf_lookup {env : Env} {y : Str} {c : Addr} (hc : env.cells.lookup y = some c) : ∀ (names : List (Str × NameKind)) (acc : List (Str × Addr)), (∀ e ∈ acc, e.1 = y → e.2 = c) → ((∃ e ∈ acc, e.1 = y) ∨ (y, NameKind.free) ∈ names) →
    (clOf env names acc).lookup y = some c
  | [], acc, ha, h => lookup_of_all ha (h.elim id fun q => nomatch q)
  | (n, k) :: r, acc, ha, h => by
    unfold clOf
    by_cases hk : (k == NameKind.free) = true
    · rw [if_pos hk]
      refine clOf_lookup hc r _ (fun e he hy => ?_) ?_
      · cases he with
        | head => have hy' : n = y := hy; subst hy'; show (env.cells.lookup n).getD 0 = c; rw [hc]; rfl
        | tail _ he => exact ha e he hy
      · rcases h with ⟨e, he, hy⟩ | h
        · exact .inl ⟨e, .tail _ he, hy⟩
        · cases h with
          | head => exact .inl ⟨_, .head _, rfl⟩
          | tail _ h => exact .inr h
    · rw [if_neg hk]
      refine clOf_lookup hc r acc ha (h.imp id fun h => ?_)
      cases h with
      | head => exact absurd rfl hk
      | tail _ h => exact h
theorem cellsFrom_lookup {y : Str} : ∀ (names : List (Str × NameKind)) (n : Nat) (acc : List (Str × Addr)), (∀ z ∈ names, z.2 = .cell → z.1 ≠ y) → (cellsFrom n names acc).lookup y = acc.lookup y
  | [], _, _, _ => rfl
  | (z, k) :: r, n, acc, h => by
    unfold cellsFrom
    by_cases hk : (k == NameKind.cell) = true
    · rw [if_pos hk, cellsFrom_lookup r _ _ fun z hz => h z (.tail _ hz), List.lookup_cons]
      have : (y == z) = false := by have := h (z, k) (.head _) (by simpa using hk); simpa using fun e : y = z => this e.symm
      rw [this]
    · rw [if_neg hk, cellsFrom_lookup r _ _ fun z hz => h z (.tail _ hz)]

def cEnv (scope : Scope) (env : Env) (C : Addr) : Env :=
  { scope := relabel scope env, locals := C, globals := env.globals, cells := cellsFrom (C + 1) scope.names (clOf env scope.names []), qual := env.qual, func := none, code := env.code, frame := env.frame, builtins := env.builtins }

theorem relabel_free {env : Env} {y : Str} : ∀ {names : List (Str × NameKind)}, names.lookup y = some .free →
    (names.map fun (n, k) => if (k == NameKind.free && env.scope.kind == .function && env.kindOf n == some .cell) then (n, NameKind.cell) else (n, k)).lookup y = some .cell ∨
    (names.map fun (n, k) => if (k == NameKind.free && env.scope.kind == .function && env.kindOf n == some .cell) then (n, NameKind.cell) else (n, k)).lookup y = some .free
  | [], h => by simp at h
  | (n, k) :: r, h => by
    have ih := @relabel_free env y r
    rw [List.map_cons]
    by_cases hx : (y == n) = true
    · simp only [List.lookup_cons, hx] at h
      cases h
      show List.lookup y ((if _ then _ else _) :: _) = _ ∨ List.lookup y ((if _ then _ else _) :: _) = _
      split
      · left; simp [List.lookup_cons, hx]
      · right; simp [List.lookup_cons, hx]
    · have hx' : (y == n) = false := by simpa using hx
      simp only [List.lookup_cons, hx'] at h
      show List.lookup y ((if _ then _ else _) :: _) = _ ∨ List.lookup y ((if _ then _ else _) :: _) = _
      split <;> simp only [List.lookup_cons, hx'] <;> exact ih h
theorem relabel_other {env : Env} {y : Str} {kk : NameKind} (hne : kk ≠ .free) : ∀ {names : List (Str × NameKind)}, names.lookup y = some kk →
    (names.map fun (n, k) => if (k == NameKind.free && env.scope.kind == .function && env.kindOf n == some .cell) then (n, NameKind.cell) else (n, k)).lookup y = some kk
  | [], h => by simp at h
  | (n, k) :: r, h => by
    have ih := @relabel_other env y kk hne r
    rw [List.map_cons]
    by_cases hx : (y == n) = true
    · simp only [List.lookup_cons, hx] at h
      cases h
      show List.lookup y ((if _ then _ else _) :: _) = _
      have : (kk == NameKind.free) = false := by simpa using hne
      simp only [this, Bool.false_and, Bool.false_eq_true, if_false]
      simp [List.lookup_cons, hx]
    · have hx' : (y == n) = false := by simpa using hx
      simp only [List.lookup_cons, hx'] at h
      show List.lookup y ((if _ then _ else _) :: _) = _
      split <;> simp only [List.lookup_cons, hx'] <;> exact ih h

theorem mem_of_lookupK {y : Str} {k : NameKind} : ∀ {l : List (Str × NameKind)}, l.lookup y = some k → (y, k) ∈ l
  | (n, v) :: r, h => by
    rw [List.lookup_cons] at h
    cases hb : y == n with
    | true => rw [hb] at h; cases h; rw [beq_iff_eq.mp hb]; exact .head _
    | false => rw [hb] at h; exact .tail _ (mem_of_lookupK h)

theorem Sees.cap {h : Heap} {env : Env} {scope : Scope} {C : Addr} {y : Str} {v : Value} (hs : Sees h env y v) (hc : capOk scope.names env y = true) : Sees h (cEnv scope env C) y v := by
  unfold capOk at hc
  simp only [Bool.and_eq_true] at hc
  obtain ⟨⟨⟨h1, h2⟩, h3⟩, h4⟩ := hc
  have h1' : scope.names.lookup y = some .free := by simpa using h1
  have h4' : (y == ("__classdict__" : Str)) = false := by simpa using h4
  have hne : ∀ z ∈ scope.names, z.2 = .cell → z.1 ≠ y := fun z hz hk => by
    have := List.all_eq_true.mp h2 z hz
    simp [hk] at this
    exact this
  rcases hs with ⟨hl, _⟩ | ⟨hk, c, hc, hv⟩
  · simp [hl] at h3
  · refine .inr ⟨?_, c, ?_, hv⟩
    · rcases relabel_free (env := env) h1' with e | e
      · exact .inl e
      · exact .inr ⟨e, h4'⟩
    · show (cellsFrom (C + 1) scope.names (clOf env scope.names [])).lookup y = some c
      rw [cellsFrom_lookup _ _ _ hne]
      exact clOf_lookup hc _ _ (fun e he => nomatch he) (.inr (mem_of_lookupK h1'))

/-! ### where a name is kept -/
def Slt (h : Heap) (env : Env) (x : Str) (b : Addr) : Prop :=
  (env.kindOf x = some .local ∧ b = env.locals ∧ ∃ m, h.Ns b m) ∨ (env.kindOf x = some .cell ∧ env.cells.lookup x = some b ∧ ∃ v, h.IsCell b v)
theorem Slt.at {h h' : Heap} {env : Env} {x : Str} {b : Addr} (S : Slt h env x b) (k : ∀ o, h.get? b = some o → h'.get? b = some o) : Slt h' env x b := by
  rcases S with ⟨a, c, m, d⟩ | ⟨a, c, v, o, ho, d⟩
  · exact .inl ⟨a, c, m, d.at' k⟩
  · exact .inr ⟨a, c, v, o, k o ho, d⟩
theorem Slt.some {h : Heap} {env : Env} {x : Str} {b : Addr} (S : Slt h env x b) : ∃ o, h.get? b = some o := by
  rcases S with ⟨a, c, m, o, es, ep, d, _⟩ | ⟨a, c, v, o, ho, d⟩
  · exact ⟨o, d⟩
  · exact ⟨o, ho⟩

theorem Slt.store {M : Model} {A : Around} {E : Value → Shared → Prop} {s : Shared} {env : Env} {x : Str} {b : Addr} {v : Value} {Q : Unit → Shared → Prop} (hk : env.scope.kind = .function) (S : Slt s.heap env x b)
    (h : ∀ h' tk, Heap.SameBut b s.heap h' → Slt h' env x b → Sees h' env x v → Q () { s with heap := h', toks := tk }) : wpAny M A (storeName env x v) Q E s := by
  rcases S with ⟨a, rfl, m, d⟩ | ⟨a, c, u, d⟩
  · refine wpAny_storeName_local a d (fun h' hn hs => h h' _ hs (.inl ⟨a, rfl, _, hn⟩) (.inl ⟨a, _, hn, by simp⟩)) ?_
    rw [hk]; rfl
  · exact wpAny_storeName_cell hk a c d fun h' hc hs => h h' s.toks hs (.inr ⟨a, c, _, hc⟩) (.inr ⟨.inl a, b, c, hc⟩)

/-! ### what is walked -/
structure Wk (w : World) (A : Around) (s : Shared) (g : Gm) (xs : List PV) (I : Addr) (h' : Heap) (fp : List Addr) (n : Nat) (P : Nat → Value → Prop) (St : Nat → Heap → Prop) (D : Addr → Prop) : Prop where
  walks : Walks PySem.Challenge.pw_rl0113_01 w A I fp [I] n P St
  new : s.heap.get? I = none
  len : n = xs.length
  start : St 0 h'
  fp : ∀ b ∈ fp, b ≠ I → D b
  live : ∀ i h, St i h → ∃ o, h.get? I = some o
  item : ∀ i v, i < n → P i v → ∃ q, xs[i]? = some q ∧ Rep g v q

def Itr (w : World) (A : Around) (p : PV) (xs : List PV) : Prop :=
  ∀ (s : Shared) (g : Gm) (v : Value) (E : Value → Shared → Prop) (Q : Value → Shared → Prop), Le g s.heap → RepT s.heap g v p →
    (∀ I h' fp n P St, (∀ b o, s.heap.get? b = some o → h'.get? b = some o) → Wk w A s g xs I h' fp n P St (fun b => ∃ o, s.heap.get? b = some o) → Q (.ref I) { s with heap := h' }) → wpAny (MM w) A (pyIter v) Q E s
/-- what is walked is frozen -/
def ItrF (w : World) (A : Around) (p : PV) (xs : List PV) : Prop :=
  ∀ (s : Shared) (g : Gm) (v : Value) (E : Value → Shared → Prop) (Q : Value → Shared → Prop), Le g s.heap → RepT s.heap g v p →
    (∀ I h' fp n P St, (∀ b o, s.heap.get? b = some o → h'.get? b = some o) → Wk w A s g xs I h' fp n P St (fun b => ∃ o, g b = some o) → Q (.ref I) { s with heap := h' }) → wpAny (MM w) A (pyIter v) Q E s

theorem itr_list {w : World} {A : Around} (hh : A.handled = none) {p : PV} {xs : List PV} (hp : p.items = some xs) : Itr w A p xs := by
  intro s g v E Q le R k
  obtain ⟨a, vs, rfl, hl, rs⟩ := R.asList le hp
  obtain ⟨ol, hol, _⟩ := id hl
  have hne : a ≠ s.heap.objs.size := Nat.ne_of_lt (Heap.lt_size hol)
  refine wpAny_pyIter_list hl (k _ _ _ _ _ _ (fun _ _ e => Heap.get?_push_of_some _ e) ⟨Walks.list hh s.heap.objs.size a hne vs, get_size_none _, ?_, ⟨⟨_, Heap.get?_push_size _ rfl, rfl, rfl⟩, ?_⟩, ?_, ?_, ?_⟩)
  · have := rs.length; simpa using this
  · obtain ⟨o, h1, h2⟩ := hl; exact ⟨o, Heap.get?_push_of_some _ h1, h2⟩
  · intro b hb hbi
    simp at hb
    rcases hb with rfl | rfl
    · exact absurd rfl hbi
    · exact ⟨ol, hol⟩
  · rintro i h ⟨⟨o, ho, _⟩, _⟩; exact ⟨o, ho⟩
  · intro i v _ hv
    have hv' : vs.toList[i]? = some v := by simpa using hv
    obtain ⟨q, a, b⟩ := rs.get' hv'
    exact ⟨q, a, b⟩
theorem itrF_list {w : World} {A : Around} (hh : A.handled = none) {xs : List PV} : ItrF w A (.list xs) xs := by
  intro s g v E Q le R k
  cases (show Rep g v (.list xs) from R) with
  | list hg hc hd rs =>
    rename_i a ol vs n
    have hol := le _ _ hg
    have hl : s.heap.IsList a vs := ⟨ol, hol, hc, n, hd⟩
    have hne : a ≠ s.heap.objs.size := Nat.ne_of_lt (Heap.lt_size hol)
    refine wpAny_pyIter_list hl (k _ _ _ _ _ _ (fun _ _ e => Heap.get?_push_of_some _ e) ⟨Walks.list hh s.heap.objs.size a hne vs, get_size_none _, ?_, ⟨⟨_, Heap.get?_push_size _ rfl, rfl, rfl⟩, ?_⟩, ?_, ?_, ?_⟩)
    · have := rs.length; simpa using this
    · obtain ⟨o, h1, h2⟩ := hl; exact ⟨o, Heap.get?_push_of_some _ h1, h2⟩
    · intro b hb hbi
      simp at hb
      rcases hb with rfl | rfl
      · exact absurd rfl hbi
      · exact ⟨ol, hg⟩
    · rintro i h ⟨⟨o, ho, _⟩, _⟩; exact ⟨o, ho⟩
    · intro i v _ hv
      have hv' : vs.toList[i]? = some v := by simpa using hv
      obtain ⟨q, a, b⟩ := rs.get' hv'
      exact ⟨q, a, b⟩

def rInts (a c : Int) (n : Nat) : List Int := (List.range n).map fun (i : Nat) => a + (i : Int) * c
theorem itrF_range {w : World} {A : Around} (hh : A.handled = none) {a b c : Int} {n : Nat} (hs : Builtin.Range.small a b c = true) (hn : Builtin.Range.rangeSize a b c = (n : Int)) : ItrF w A (.range a b c) (PI (rInts a c n)) := by
  intro s g v E Q le R k
  cases (show Rep g v (.range a b c) from R) with
  | range h =>
    refine wpAny_pyIter_range (le _ _ h) hs (k _ _ _ _ _ _ (fun _ _ e => Heap.get?_push_of_some _ e) ⟨Walks.range hh s.heap.objs.size a c n, get_size_none _, ?_, ?_, ?_, ?_, ?_⟩)
    · simp [PI, rInts]
    · show IsRangeIter _ _ _ _ _
      rw [hn]
      simpa using Heap.get?_push_size _ rfl
    · intro x hx hxi; simp at hx; exact absurd hx hxi
    · intro i h st; exact ⟨_, st⟩
    · rintro i v hi ⟨t, rfl⟩
      refine ⟨.int (a + (i : Int) * c), ?_, .int _ _⟩
      simp [PI, rInts, List.getElem?_map, List.getElem?_range hi]
theorem ItrF.itr {w : World} {A : Around} {p : PV} {xs : List PV} (h : ItrF w A p xs) : Itr w A p xs := fun s g v E Q le R k =>
  h s g v E Q le R fun I h' fp n P St hk W => k I h' fp n P St hk { W with fp := fun b hb hne => let ⟨o, e⟩ := W.fp b hb hne; ⟨o, le _ _ e⟩ }
theorem itr_range {w : World} {A : Around} (hh : A.handled = none) {a b c : Int} {n : Nat} (hs : Builtin.Range.small a b c = true) (hn : Builtin.Range.rangeSize a b c = (n : Int)) : Itr w A (.range a b c) (PI (rInts a c n)) := (itrF_range hh hs hn).itr
end Mine
end
noncomputable section
open PySem PySem.W PySem.Calls PyProof.Rows
namespace Mine

theorem cells_new {x : Str} : ∀ (names : List (Str × NameKind)) (h : Heap) (acc : List (Str × Addr)), (x, NameKind.cell) ∈ names →
    ∃ c, (cellsFrom h.objs.size names acc).lookup x = some c ∧ h.objs.size ≤ c ∧ (pushCells h names).IsCell c none
  | [], _, _, hm => nomatch hm
  | (z, k) :: r, h, acc, hm => by
    unfold cellsFrom pushCells
    by_cases hk : (k == NameKind.cell) = true
    · rw [if_pos hk, if_pos hk]
      by_cases hr : (x, NameKind.cell) ∈ r
      · obtain ⟨c, a, b, d⟩ := cells_new r (h.push { cls := .type "cell", data := .cell none }) ((z, h.objs.size) :: acc) hr
        rw [Heap.size_push] at a b
        exact ⟨c, a, by omega, d⟩
      · have hz : x = z := by cases hm with | head => rfl | tail _ hm => exact absurd hm hr
        subst hz
        refine ⟨h.objs.size, ?_, Nat.le_refl _, ⟨_, pushCells_keeps r _ _ _ (Heap.get?_push_size _ rfl), rfl⟩⟩
        rw [cellsFrom_lookup r _ _ fun y hy hc e => hr (by obtain ⟨y1, y2⟩ := y; cases e; cases hc; exact hy)]
        simp
    · rw [if_neg hk, if_neg hk]
      refine cells_new r h acc ?_
      cases hm with
      | head => exact absurd rfl hk
      | tail _ hm => exact hm

theorem nfe_comp {M : Model} {A : Around} {E : Value → Shared → Prop} {s : Shared} {scope : Scope} {env : Env} {cl : List (Str × Addr)} {Q : Env → Shared → Prop}
    (hQ : Q { scope := scope, locals := s.heap.objs.size, globals := env.globals, cells := cellsFrom (s.heap.objs.size + 1) scope.names cl, qual := env.qual, func := none, code := env.code, frame := env.frame, builtins := env.builtins }
      { s with heap := pushCells (s.heap.push { cls := .type "dict", data := .dict #[] }) scope.names }) :
    wpAny M A (newFunctionEnv scope env.globals cl [] env.qual none .none (some env)) Q E s := by
  simp only [newFunctionEnv, Option.isSome_some, if_true]
  refine wpAny_bind (wpAny_alloc ?_)
  refine wpAny_bind (wpAny_layCells _ (fun name kind cells => by cases hkc : kind == NameKind.cell <;> simp [hkc]) _ _ _ _ ?_)
  rw [show ({ s with heap := s.heap.push { cls := .type "dict", data := .dict #[] } } : Shared).heap.objs.size = s.heap.objs.size + 1 from Heap.size_push ..]
  exact wpAny_bind (wpAny_pure (wpAny_pure hQ))

def Tf (w : World) (A : Around) (env : Env) (V : Vars) (ifs : List Expr) (b : Bool) : Prop :=
  ∀ (s : Shared) (g : Gm) (E : Value → Shared → Prop), Inv w s g env V →
    wpAny (MM w) A (forIn ifs true fun c r => if r = true then do let ok ← isTrue c env (eval c env); pure (ForInStep.yield ok) else pure (ForInStep.yield r)) (fun ok s' => ok = b ∧ ∃ g', Grow s g s' g') E s
theorem tf_nil {w : World} {A : Around} {env : Env} {V : Vars} : Tf w A env V [] true := fun _ g _ I => wpAny_tests_nil ⟨rfl, g, Grow.refl I.le⟩
theorem tf_one {w : World} {A : Around} {env : Env} {V : Vars} {c : Expr} {b : Bool} (h : Tr w A env V c b) : Tf w A env V [c] b := fun s g E I => wpAny_tests_one (h s g E I)

/-- a change of one object that the frozen part does not hold -/
theorem Grow.but {s₁ s : Shared} {g₁ g : Gm} {a : Addr} {h' : Heap} {tk : Nat} (G : Grow s₁ g₁ s g) (h1 : s₁.heap.get? a = none) (h2 : g a = none) (k : ∀ b o, b ≠ a → s.heap.get? b = some o → h'.get? b = some o) :
    Grow s₁ g₁ { s with heap := h', toks := tk } g := by
  obtain ⟨⟨h, t, rfl, kp⟩, sub, le, fr⟩ := G
  refine ⟨⟨h', tk, rfl, fun b o e => k b o ?_ (kp b o e)⟩, sub, fun b o e => k b o ?_ (le b o e), fr⟩
  · rintro rfl; rw [h1] at e; cases e
  · rintro rfl; rw [h2] at e; cases e
theorem Grow.stays {s s' : Shared} {g g' : Gm} {a : Addr} {o : Obj} (G : Grow s g s' g') (h : s.heap.get? a = some o) (hg : g a = none) : g' a = none := by
  cases e : g' a with
  | none => rfl
  | some o' => have := G.fresh a o' e hg; rw [h] at this; cases this

section
variable {w : World} {A : Around} {env : Env} {V : Vars} {s : Shared} {g : Gm} {E : Value → Shared → Prop}

theorem filter_take_succ {α : Type} {p : α → Bool} {f : α → PV} {xs : List α} {i : Nat} {q : α} (h : xs[i]? = some q) :
    ((xs.take (i + 1)).filter p).map f = ((xs.take i).filter p).map f ++ (if p q = true then [f q] else []) := by
  rw [List.take_add_one, h, List.filter_append, List.map_append]
  cases hp : p q <;> simp [hp]

theorem comp_core {elt iter : Expr} {x : Str} {px : Pos} {ifs : List Expr} {scope : Scope} {pos pos' : Pos} {use : Option (Value → Sem Unit)} {Q : Value → Shared → Prop} {pi : PV} {α : Type} {xs : List α} (cc : α → PV)
    (p : α → Bool) (f : α → PV) (hi : Ex w A env V iter pi) (hit : Itr w A pi (xs.map cc)) (I₀ : Inv w s g env V) (hs : ∀ x, foldedSetIterable iter env x = pure x)
    (hfree : freeOk scope.names env = true) (hkind : scope.kind = .function) (hnames : ∀ y ∈ scope.names, y.2 = .local → scope.names.lookup y.1 = some .local)
    (hx : scope.names.lookup x = some .local ∨ scope.names.lookup x = some .cell)
    (ht : ∀ C q, q ∈ xs → Tf w A (cEnv scope env C) ((x, cc q) :: capV scope.names env V) ifs (p q))
    (he : ∀ C q, q ∈ xs → p q = true → Ex w A (cEnv scope env C) ((x, cc q) :: capV scope.names env V) elt (f q))
    (hz : ∀ q ∈ xs, p q = true → (f q).fz = true) (hn : xs.length ≤ 100000)
    (k : ∀ D C s' g', Grow s g s' g' → Rep g' (.ref D) (.list ((xs.filter p).map f)) → s.heap.get? C = none → g' C = none → (∃ m, s'.heap.Ns C m) → s.heap.get? D = none → compPost (MM w) A E use Q (.ref D) C (.ok .next) s') :
    wpAny (MM w) A (comprehension (.ListComp elt [⟨.Name x px, iter, ifs, 0⟩] scope pos) scope env pos' (newList []) false (eval iter env) use) Q E s := by
  refine wpAny_comprehension_free rfl hs (closure_eq hfree) hkind hnames ?_
  refine hi.run I₀ fun xv s₁ g₁ G₁ R₁ I₁ => ?_
  refine hit s₁ g₁ xv E _ I₁.le R₁ fun I h₂ fp n P St hk₂ W => ?_
  refine wpAny_newObj_type (nfe_comp ?_)
  dsimp only
  -- the addresses
  have hI2 : ∃ o, h₂.get? I = some o := W.live 0 h₂ W.start
  generalize hD : h₂.objs.size = D
  generalize hH3 : h₂.push { cls := .type "list", dict := none, data := .seq ([] : List Value).toArray } = h₃
  have hC : h₃.objs.size = D + 1 := by rw [← hH3, Heap.size_push, hD]
  rw [hC]
  generalize hH4 : pushCells (h₃.push { cls := .type "dict", data := .dict #[] }) scope.names = h₄
  have hk₃ : ∀ b o, h₂.get? b = some o → h₃.get? b = some o := fun b o e => hH3 ▸ Heap.get?_push_of_some _ e
  have hk₄ : ∀ b o, h₃.get? b = some o → h₄.get? b = some o := fun b o e => hH4 ▸ pushCells_keeps _ _ b o (Heap.get?_push_of_some _ e)
  have hk : ∀ b o, s₁.heap.get? b = some o → h₄.get? b = some o := fun b o e => hk₄ b o (hk₃ b o (hk₂ b o e))
  have nD2 : h₂.get? D = none := hD ▸ get_size_none _
  have oD : h₄.get? D = some { cls := .type "list", dict := none, data := .seq #[] } := hk₄ _ _ (by rw [← hH3, ← hD]; exact Heap.get?_push_size _ rfl)
  have nC3 : h₃.get? (D + 1) = none := hC ▸ get_size_none _
  have nsC : h₄.Ns (D + 1) (fun _ => none) := by
    have := Heap.Ns.new h₃ (.type "dict")
    rw [hC] at this
    exact hH4 ▸ this.keeps (pushCells_keeps _ _)
  have nold : ∀ a, h₂.get? a = none → s₁.heap.get? a = none := fun a ha => by
    cases e : s₁.heap.get? a with
    | none => rfl
    | some o => rw [hk₂ _ _ e] at ha; cases ha
  have nD1 := nold D nD2
  have nC2 : h₂.get? (D + 1) = none := by
    cases e : h₂.get? (D + 1) with
    | none => rfl
    | some o => rw [hk₃ _ _ e] at nC3; cases nC3
  have nC1 := nold _ nC2
  have hDI : D ≠ I := by rintro rfl; obtain ⟨o, e⟩ := hI2; rw [nD2] at e; cases e
  have hCI : D + 1 ≠ I := by rintro rfl; obtain ⟨o, e⟩ := hI2; rw [nC2] at e; cases e
  have gn : ∀ a, s₁.heap.get? a = none → g₁ a = none := fun a ha => by
    cases e : g₁ a with
    | none => rfl
    | some o => rw [I₁.le _ _ e] at ha; cases ha
  -- where the variable is kept
  have slot : ∃ b, Slt h₄ (cEnv scope env (D + 1)) x b ∧ h₂.get? b = none ∧ b ≠ D ∧ b ≠ I := by
    rcases hx with hx | hx
    · exact ⟨D + 1, .inl ⟨relabel_other (by decide) hx, rfl, _, nsC⟩, nC2, Nat.succ_ne_self D, hCI⟩
    · obtain ⟨c, a, b, d⟩ := cells_new scope.names (h₃.push { cls := .type "dict", data := .dict #[] }) (clOf env scope.names []) (mem_of_lookupK hx)
      rw [Heap.size_push, hC] at a b
      rw [hH4] at d
      have nc : h₂.get? c = none := by
        cases e : h₂.get? c with
        | none => rfl
        | some o => have := Heap.lt_size e; rw [hD] at this; exact absurd this (Nat.not_lt.mpr (Nat.le_trans (Nat.le_add_right D 2) b))
      refine ⟨c, .inr ⟨relabel_other (by decide) hx, a, _, d⟩, nc, Nat.ne_of_gt (Nat.lt_of_lt_of_le (Nat.lt_succ_of_lt (Nat.lt_succ_self D)) b), ?_⟩
      rintro rfl; obtain ⟨o, e⟩ := hI2; rw [nc] at e; cases e
  obtain ⟨b, hb, nb2, hbD, hbI⟩ := slot
  have nb1 := nold b nb2
  have nI1 := W.new
  -- the loop
  have hfpD : ∀ c ∈ fp, c ≠ D ∧ c ≠ b := fun c hc => by
    by_cases e : c = I
    · subst e; exact ⟨Ne.symm hDI, Ne.symm hbI⟩
    · obtain ⟨o, ho⟩ := W.fp c hc e
      constructor
      · rintro rfl; rw [nD1] at ho; cases ho
      · rintro rfl; rw [nb1] at ho; cases ho
  have loop : ∀ s₄ : Shared, s₄ = { s₁ with heap := h₄ } → codeAny (MM w) A (.compLoop (.ListComp elt [⟨.Name x px, iter, ifs, 0⟩] scope pos) 0 (.ref I) (.ref D) (cEnv scope env (D + 1)))
      (compPost (MM w) A E use Q (.ref D) (D + 1)) s₄ := by
    rintro s₄ rfl
    refine codeAny_compLoop_tests (fun m s' => ∃ i g' ys c, m = n + 1 - i ∧ i ≤ n ∧ Grow s₁ g₁ s' g' ∧ St i s'.heap ∧ s'.heap.get? D = some { cls := .type "list", data := .seq ys c } ∧ Reps g' ys.toList (((xs.take i).filter p).map f) ∧
      Slt s'.heap (cEnv scope env (D + 1)) x b ∧ (∃ m, s'.heap.Ns (D + 1) m) ∧ g' I = none ∧ g' D = none ∧ g' b = none ∧ g' (D + 1) = none) ?_ (n + 1)
      ⟨0, g₁, #[], 0, rfl, Nat.zero_le _, Grow.keep (tk := s₁.toks) I₁.le hk, W.walks.frame _ _ _ W.start (fun c _ o e => hk₄ c o (hk₃ c o e)), oD, by simpa using Reps.nil, hb, ⟨_, nsC⟩, gn _ nI1, gn _ nD1, gn _ nb1, gn _ nC1⟩
    rintro m s' ⟨i, g', ys, c, rfl, hin, G', st, oD', rs, sl, hns, gI, gD, gb, gC⟩
    have hCb : ∀ (hh hh' : Heap), (∃ m, hh.Ns (D + 1) m) → (∀ o, hh.get? (D + 1) = some o → hh'.get? (D + 1) = some o) → ∃ m, hh'.Ns (D + 1) m := fun _ _ ⟨m, a⟩ k => ⟨m, a.at' k⟩
    by_cases hlt : i < n
    · refine W.walks.item i s' _ _ hlt st fun v h₅ tk₅ hP st₅ hk₅ => ?_
      obtain ⟨q', hq', rq⟩ := W.item i v hlt hP
      rw [List.getElem?_map] at hq'
      obtain ⟨q, hq, rfl⟩ := Option.map_eq_some_iff.mp hq'
      have hqm : q ∈ xs := List.mem_of_getElem? hq
      have kI : ∀ a o, a ≠ I → s'.heap.get? a = some o → h₅.get? a = some o := fun a o ha e => hk₅ a o (by simpa using ha) e
      have G₅ : Grow s₁ g₁ { s' with heap := h₅, toks := tk₅ } g' := G'.but nI1 gI kI
      refine wpAny_assign_Name ((sl.at fun o e => kI b o hbI e).store (show (cEnv scope env (D + 1)).scope.kind = .function from hkind) fun h₆ tk₆ sb₆ sl₆ see₆ => ?_)
      have k₆ : ∀ a o, a ≠ b → h₅.get? a = some o → h₆.get? a = some o := fun a o ha e => sb₆.extBut a o ha e
      have G₆ : Grow s₁ g₁ { s' with heap := h₆, toks := tk₆ } g' := G₅.but nb1 gb k₆
      have st₆ : St (i + 1) h₆ := W.walks.frame _ _ _ st₅ fun c hc o e => k₆ c o (hfpD c hc).2 e
      have oD₆ : h₆.get? D = some { cls := .type "list", data := .seq ys c } := k₆ _ _ (Ne.symm hbD) (kI _ _ hDI oD')
      have ns₆ : ∃ m, h₆.Ns (D + 1) m := by
        obtain ⟨m, a⟩ := hCb _ h₅ hns fun o e => kI _ _ hCI e
        by_cases e : D + 1 = b
        · rcases sl₆ with ⟨_, _, m, d⟩ | ⟨_, c', v', ob, hob, hdat⟩
          · exact ⟨m, e ▸ d⟩
          · exfalso
            rename_i kc'
            rcases sl.at (fun o e => kI b o hbI e) with ⟨kl, _⟩ | ⟨kc, c1, v1, o1, ho1, hd1⟩
            · rw [kl] at kc'; cases kc'
            · obtain ⟨o2, es, ep, ho2, hd2, _⟩ := a
              rw [e, ho1] at ho2; cases ho2; rw [hd1] at hd2; cases hd2
        · exact ⟨m, a.at' fun o eo => k₆ _ _ e eo⟩
      have I₆ : Inv w { s' with heap := h₆, toks := tk₆ } g' (cEnv scope env (D + 1)) ((x, cc q) :: capV scope.names env V) := by
        have In := (I₁.grow G₆)
        refine ⟨In.le, In.base, hkind, I₁.globals, I₁.builtins, fun y hy => ?_⟩
        cases hy with
        | head => exact ⟨v, see₆, (rq.mono G'.sub).T⟩
        | tail _ hy =>
          obtain ⟨hy1, hy2⟩ := List.mem_filter.mp hy
          obtain ⟨u, su, ru⟩ := In.vars y hy1
          exact ⟨u, su.cap hy2, ru⟩
      have nI : ∃ o, h₆.get? I = some o := W.live _ _ st₆
      refine wpAny_mono (ht (D + 1) q hqm _ g' _ I₆) (fun ok s₇ h₇ => ?_) fun _ _ e => e
      obtain ⟨rfl, g₇, G₇⟩ := h₇
      obtain ⟨oI, eI⟩ := nI
      obtain ⟨ob, eb⟩ := sl₆.some
      obtain ⟨mC, oC, esC, epC, eC, rC⟩ := ns₆
      have gI₇ := G₇.stays eI gI
      have gD₇ := G₇.stays oD₆ gD
      have gb₇ := G₇.stays eb gb
      have gC₇ := G₇.stays eC gC
      have st₇ : St (i + 1) s₇.heap := W.walks.frame _ _ _ st₆ fun c _ o e => G₇.get c o e
      cases hpq : p q with
      | false =>
        simp only [Bool.false_eq_true, if_false]
        refine ⟨n + 1 - (i + 1), by omega, i + 1, g₇, ys, c, rfl, hlt, G₆.trans G₇, st₇, G₇.get _ _ oD₆, ?_, sl₆.at fun o e => G₇.get _ o e, ⟨mC, oC, esC, epC, G₇.get _ _ eC, rC⟩, gI₇, gD₇, gb₇, gC₇⟩
        rw [filter_take_succ hq, hpq]
        simpa using rs.mono G₇.sub
      | true =>
        simp only [if_true]
        refine wpAny_mono (he (D + 1) q hqm hpq _ g₇ _ (I₆.grow G₇)) (fun y s₈ h₈ => ?_) fun _ _ e => e
        obtain ⟨g₈, G₈, r₈⟩ := h₈
        have r₈' := r₈.fz (hz q hqm hpq)
        have oD₈ := G₈.get _ _ (G₇.get _ _ oD₆)
        have gI₈ := G₈.stays (G₇.get _ _ eI) gI₇
        have gD₈ := G₈.stays (G₇.get _ _ oD₆) gD₇
        have gb₈ := G₈.stays (G₇.get _ _ eb) gb₇
        have gC₈ := G₈.stays (G₇.get _ _ eC) gC₇
        have hys : ys.size ≤ sizeLine := by
          have e1 := rs.length
          have e2 : ((xs.take i).filter p).length ≤ (xs.take i).length := List.length_filter_le _ _
          have e3 : (xs.take i).length ≤ xs.length := List.length_take_le' ..
          rw [Array.length_toList, List.length_map] at e1
          rw [sizeLine_eq]
          omega
        refine wpAny_list_append_plain (items := ys) (hsz := hys) ⟨c, oD₈⟩ fun h₉ pl₉ sb₉ => ?_
        obtain ⟨c', oD₉⟩ := pl₉
        have k₉ : ∀ a o, a ≠ D → s₈.heap.get? a = some o → h₉.get? a = some o := fun a o ha e => sb₉.extBut a o ha e
        have G₉ : Grow s₁ g₁ { s₈ with heap := h₉ } g₈ := ((G₆.trans G₇).trans G₈).but (tk := s₈.toks) nD1 gD₈ k₉
        have hCD : D + 1 ≠ D := Nat.succ_ne_self D
        refine ⟨n + 1 - (i + 1), by omega, i + 1, g₈, ys.push y, c', rfl, hlt, G₉, W.walks.frame _ _ _ st₇ (fun c hc o e => k₉ c o (hfpD c hc).1 (G₈.get _ _ e)), oD₉, ?_, (sl₆.at fun o e => k₉ _ _ hbD (G₈.get _ _ (G₇.get _ o e))), ⟨mC, oC, esC, epC, k₉ _ _ hCD (G₈.get _ _ (G₇.get _ _ eC)), rC⟩, gI₈, gD₈, gb₈, gC₈⟩
        rw [filter_take_succ hq, hpq]
        simpa using (rs.mono fun a o e => G₈.sub a o (G₇.sub a o e)).snoc r₈'
    · have hin' : i = n := by omega
      subst hin'
      refine W.walks.done _ _ _ st fun h₅ tk₅ hk₅ => ?_
      have kI : ∀ a o, a ≠ I → s'.heap.get? a = some o → h₅.get? a = some o := fun a o ha e => hk₅ a o (by simpa using ha) e
      have G₅ : Grow s₁ g₁ { s' with heap := h₅, toks := tk₅ } g' := G'.but nI1 gI kI
      have oD₅ := kI _ _ hDI oD'
      have Gd : Grow { s' with heap := h₅, toks := tk₅ } g' { s' with heap := h₅, toks := tk₅ } g' := Grow.refl G₅.le
      -- the list enters the frozen part
      have Gf : Grow s₁ g₁ { s' with heap := h₅, toks := tk₅ } (gadd g' D { cls := .type "list", data := .seq ys c }) := by
        refine ⟨G₅.keeps, fun a o e => ?_, fun a o e => ?_, fun a o e1 e2 => ?_⟩
        · rw [gadd_ne]; exact G₅.sub a o e
          rintro rfl; rw [I₁.le _ _ e] at nD1; cases nD1
        · by_cases q : a = D
          · subst q; rw [gadd_self] at e; cases e; exact oD₅
          · rw [gadd_ne q] at e; exact G₅.le a o e
        · by_cases q : a = D
          · subst q; exact nD1
          · rw [gadd_ne q] at e1; exact G₅.fresh a o e1 e2
      have nS : ∀ a, s₁.heap.get? a = none → s.heap.get? a = none := fun a ha => by
        cases e : s.heap.get? a with
        | none => rfl
        | some o => rw [G₁.get _ _ e] at ha; cases ha
      refine k D (D + 1) _ _ (G₁.trans Gf) (Rep.list gadd_self rfl rfl ?_) (nS _ nC1) (by rw [gadd_ne (show D + 1 ≠ D from Nat.succ_ne_self D)]; exact gC) (hCb _ h₅ hns fun o e => kI _ _ hCI e) (nS _ nD1)
      have : xs.take i = xs := List.take_of_length_le (by have := W.len; rw [List.length_map] at this; rw [← this]; exact Nat.le_refl _)
      rw [this] at rs
      refine rs.mono fun a o e => ?_
      rw [gadd_ne]; exact e
      rintro rfl; rw [gD] at e; cases e
  have st₄ : St 0 h₄ := W.walks.frame _ _ _ W.start fun c _ o e => hk₄ c o (hk₃ c o e)
  exact codeAny_compStart_list (loop _ rfl) (W.walks.self 0 _ _ _ st₄ (loop _ rfl))
end
end Mine
end
noncomputable section
open PySem PySem.W PySem.Calls PyProof.Rows
namespace Mine
section
variable {w : World} {A : Around} {env : Env} {V : Vars}

theorem ex_comp {elt iter : Expr} {x : Str} {px : Pos} {ifs : List Expr} {scope : Scope} {pos : Pos} {pi : PV} {α : Type} {xs : List α} (cc : α → PV)
    (p : α → Bool) (f : α → PV) (hi : Ex w A env V iter pi) (hit : Itr w A pi (xs.map cc))
    (ht : ∀ C q, q ∈ xs → Tf w A (cEnv scope env C) ((x, cc q) :: capV scope.names env V) ifs (p q))
    (he : ∀ C q, q ∈ xs → p q = true → Ex w A (cEnv scope env C) ((x, cc q) :: capV scope.names env V) elt (f q))
    (hz : ∀ q ∈ xs, p q = true → (f q).fz = true) (hn : xs.length ≤ 100000)
    (hx : scope.names.lookup x = some .local ∨ scope.names.lookup x = some .cell)
    (hfree : freeOk scope.names env = true := by rfl) (hkind : scope.kind = .function := by rfl) (hnames : ∀ y ∈ scope.names, y.2 = .local → scope.names.lookup y.1 = some .local := by decide)
    (hs : ∀ x, foldedSetIterable iter env x = pure x := by intro _; rfl) :
    Ex w A env V (.ListComp elt [⟨.Name x px, iter, ifs, 0⟩] scope pos) (.list ((xs.filter p).map f)) := by
  intro s g E I
  rw [eval_ListComp]
  refine comp_core (use := none) cc p f hi hit I hs hfree hkind hnames hx ht he hz hn ?_
  intro D C s' g' G R nC gC hns nD
  obtain ⟨m, hm⟩ := hns
  refine ⟨m, hm, fun h' sb => ⟨g', G.but (tk := s'.toks) nC gC fun b o hb e => sb.extBut b o hb e, R.T⟩⟩

theorem filter_all {α : Type} (l : List α) : l.filter (fun _ => true) = l := List.filter_eq_self.mpr fun _ _ => rfl
/-- without a test -/
theorem ex_compM {elt iter : Expr} {x : Str} {px : Pos} {scope : Scope} {pos : Pos} {pi : PV} {α : Type} {xs : List α} (cc : α → PV)
    (f : α → PV) (hi : Ex w A env V iter pi) (hit : Itr w A pi (xs.map cc))
    (he : ∀ C q, q ∈ xs → Ex w A (cEnv scope env C) ((x, cc q) :: capV scope.names env V) elt (f q))
    (hz : ∀ q ∈ xs, (f q).fz = true) (hn : xs.length ≤ 100000)
    (hx : scope.names.lookup x = some .local ∨ scope.names.lookup x = some .cell)
    (hfree : freeOk scope.names env = true := by rfl) (hkind : scope.kind = .function := by rfl) (hnames : ∀ y ∈ scope.names, y.2 = .local → scope.names.lookup y.1 = some .local := by decide)
    (hs : ∀ x, foldedSetIterable iter env x = pure x := by intro _; rfl) :
    Ex w A env V (.ListComp elt [⟨.Name x px, iter, [], 0⟩] scope pos) (.list (xs.map f)) := by
  have := ex_comp (px := px) (pos := pos) cc (fun _ => true) f hi hit (fun _ _ _ => tf_nil) (fun C q hq _ => he C q hq) (fun q hq _ => hz q hq) hn hx hfree hkind hnames hs
  rwa [filter_all] at this

/-! ### comparisons of lists -/
theorem cm_eq_ints {p q : PV} {l m : List Int} (hp : p.items = some (PI l)) (hq : q.items = some (PI m)) (hu : A.units + 64 < cLine) : Cm w A .Eq p q (decide (l = m)) := by
  intro s g v u E le B R₁ R₂
  obtain ⟨a, vs, rfl, hl, rs⟩ := R₁.asList le hp
  obtain ⟨b, ws, rfl, hm, rt⟩ := R₂.asList le hq
  exact eq_intsK (vs := vs.toList) (us := ws.toList) hl rs.ints hm rt.ints hu ⟨rfl, g, Grow.refl le⟩
theorem cm_ne_ints {p q : PV} {l m : List Int} (hp : p.items = some (PI l)) (hq : q.items = some (PI m)) (hu : A.units + 64 < cLine) : Cm w A .NotEq p q (!decide (l = m)) := by
  intro s g v u E le B R₁ R₂
  obtain ⟨a, vs, rfl, hl, rs⟩ := R₁.asList le hp
  obtain ⟨b, ws, rfl, hm, rt⟩ := R₂.asList le hq
  exact ne_intsK (vs := vs.toList) (us := ws.toList) hl rs.ints hm rt.ints hu ⟨rfl, g, Grow.refl le⟩

theorem cm_in_ints {i : Int} {q : PV} {m : List Int} (hq : q.items = some (PI m)) : Cm w A .In (.int i) q (m.any (· == i)) := by
  intro s g v u E le B R₁ R₂
  cases (show Rep g v (.int i) from R₁)
  obtain ⟨b, ws, rfl, hm, rt⟩ := R₂.asList le hq
  exact in_list_ints (vs := ws.toList) hm rt.ints ⟨rfl, g, Grow.refl le⟩
theorem cm_notin_ints {i : Int} {q : PV} {m : List Int} (hq : q.items = some (PI m)) : Cm w A .NotIn (.int i) q (!(m.any (· == i))) := by
  intro s g v u E le B R₁ R₂
  cases (show Rep g v (.int i) from R₁)
  obtain ⟨b, ws, rfl, hm, rt⟩ := R₂.asList le hq
  exact notin_list_ints (vs := ws.toList) hm rt.ints ⟨rfl, g, Grow.refl le⟩
theorem cm_in_strs {x : Str} {q : PV} {m : List Str} (hq : q.items = some (PS m)) : Cm w A .In (.str x) q (m.any (· == x)) := by
  intro s g v u E le B R₁ R₂
  cases (show Rep g v (.str x) from R₁)
  obtain ⟨b, ws, rfl, hm, rt⟩ := R₂.asList le hq
  exact in_list_strs (vs := ws.toList) hm rt.strs ⟨rfl, g, Grow.refl le⟩

/-! ### places and slices -/
theorem ex_sub {value slice : Expr} {pos : Pos} {p q : PV} {l : List PV} {i : Int} (hv : Ex w A env V value p) (hp : p.items = some l) (hi : Ex w A env V slice (.int i)) (h0 : 0 ≤ i) (h1 : i < 2 ^ 62) (hq : l[i.toNat]? = some q)
    (hs : ∀ o iv, subscripted slice false o iv = operate [o, iv] (getItem o iv) := by intro _ _; rfl) : Ex w A env V (.Subscript value slice pos) q := by
  intro s g E I
  refine Subscript_ (hv.run I fun v s₁ g₁ G₁ R₁ I₁ => hi.run I₁ fun u s₂ g₂ G₂ R₂ I₂ => ?_)
  cases (show Rep g₂ u (.int i) from R₂)
  obtain ⟨a, vs, rfl, hl, rs⟩ := (R₁.mono G₂.get G₂.sub).asList I₂.le hp
  obtain ⟨x, hx, rx⟩ := rs.get hq
  exact tail_any hl.typeIs slot_list_getitem.lookup (wpAny_getItem_list hl h0 (by omega) (by simpa using hx) ⟨g₂, G₁.trans G₂, rx.T⟩) (hs _ _)
theorem ex_subneg {value slice : Expr} {pos : Pos} {p q : PV} {l : List PV} {i : Int} (hv : Ex w A env V value p) (hp : p.items = some l) (hi : Ex w A env V slice (.int i)) (h0 : i < 0) (h1 : -(2 ^ 62) ≤ i) (h2 : -(l.length : Int) ≤ i) (hq : l[(i + l.length).toNat]? = some q)
    (hs : ∀ o iv, subscripted slice false o iv = operate [o, iv] (getItem o iv) := by intro _ _; rfl) : Ex w A env V (.Subscript value slice pos) q := by
  intro s g E I
  refine Subscript_ (hv.run I fun v s₁ g₁ G₁ R₁ I₁ => hi.run I₁ fun u s₂ g₂ G₂ R₂ I₂ => ?_)
  cases (show Rep g₂ u (.int i) from R₂)
  obtain ⟨a, vs, rfl, hl, rs⟩ := (R₁.mono G₂.get G₂.sub).asList I₂.le hp
  obtain ⟨x, hx, rx⟩ := rs.get hq
  have e := rs.length
  rw [Array.length_toList] at e
  exact tail_any hl.typeIs slot_list_getitem.lookup (wpAny_getItem_list_neg hl h0 (by rw [e]; exact h2) (by omega) (by rw [e]; simpa using hx) ⟨g₂, G₁.trans G₂, rx.T⟩) (hs _ _)

def Pt (w : World) (A : Around) (env : Env) (V : Vars) (x : Option Expr) (o : Option Int) : Prop :=
  ∀ (s : Shared) (g : Gm) (E : Value → Shared → Prop), Inv w s g env V → wpAny (MM w) A (evalPart x env) (fun v s' => IsPart v o ∧ ∃ g', Grow s g s' g') E s
theorem pt_none : Pt w A env V none none := fun _ g _ I => wpAny_pure ⟨.none, g, Grow.refl I.le⟩
theorem pt_int {e : Expr} {i : Int} (h : Ex w A env V e (.int i)) : Pt w A env V (some e) (some i) := fun s g E I =>
  wpAny_mono (h s g E I) (fun v s' ⟨g', G, R⟩ => by cases (show Rep g' v (.int i) from R); exact ⟨.int _ _, g', G⟩) fun _ _ x => x
theorem pt_no {e : Expr} (h : Ex w A env V e .none) : Pt w A env V (some e) none := fun s g E I =>
  wpAny_mono (h s g E I) (fun v s' ⟨g', G, R⟩ => by cases (show Rep g' v .none from R); exact ⟨.none, g', G⟩) fun _ _ x => x

def sliceL (l : List PV) (lo hi : Option Int) : List PV := (l.drop (lo.elim 0 (clipAt l.length))).take (hi.elim l.length (clipAt l.length) - lo.elim 0 (clipAt l.length))

theorem ex_slice {value : Expr} {lower upper : Option Expr} {p' pos : Pos} {p : PV} {l : List PV} {lo hi : Option Int} (hv : Ex w A env V value p) (hp : p.items = some l) (hl : Pt w A env V lower lo) (hu : Pt w A env V upper hi) (hn : l.length ≤ 1000000)
    (ht : ∀ o r, letTemporaryGo value o r = pure () := by intro _ _; rfl) : Ex w A env V (.Subscript value (.Slice lower upper none p') pos) (.list (sliceL l lo hi)) := by
  intro s g E I
  refine wpAny_Subscript_list_slice (hv.run I fun v s₁ g₁ G₁ R₁ I₁ => ?_) ht
  refine wpAny_mono (hl s₁ g₁ E I₁) (fun vl s₂ ⟨pl, g₂, G₂⟩ => ?_) fun _ _ x => x
  have I₂ := I₁.grow G₂
  refine wpAny_mono (hu s₂ g₂ E I₂) (fun vu s₃ ⟨pu, g₃, G₃⟩ => ?_) fun _ _ x => x
  have I₃ := I₂.grow G₃
  obtain ⟨a, vs, rfl, hl, rs⟩ := ((R₁.mono G₂.get G₂.sub).mono G₃.get G₃.sub).asList I₃.le hp
  have e := rs.length
  rw [Array.length_toList] at e
  have K : ∀ (o1 o2 : Obj), o1.isFreed = false → o2.isFreed = false → Grow s₃ g₃ { s₃ with heap := (s₃.heap.push o1).push o2 } (gadd g₃ (s₃.heap.objs.size + 1) o2) := fun o1 o2 h1 h2 => by
    have : s₃.heap.objs.size + 1 = (s₃.heap.push o1).objs.size := (Heap.size_push ..).symm
    refine Grow.new (tk := s₃.toks) I₃.le (fun b o e => Heap.get?_push_of_some _ (Heap.get?_push_of_some _ e)) ?_ (by rw [this]; exact Heap.get?_push_size _ h2)
    cases q : s₃.heap.get? (s₃.heap.objs.size + 1) with
    | none => rfl
    | some o => exact absurd (Heap.lt_size q) (Nat.not_lt.mpr (Nat.le_succ _))
  refine ⟨a, vs, lo, hi, rfl, hl, by rw [sizeLine_eq]; omega, pl, pu, _, ((G₁.trans G₂).trans G₃).trans (K _ _ rfl rfl), Rep.list gadd_self rfl rfl ?_⟩
  rw [slicePick_plain]
  unfold sliceL
  rw [← e]
  refine Reps.mono (K { cls := .type "slice", data := .fields #[vl, vu, .none] } _ rfl rfl).sub ?_
  simpa using (rs.drop _).take _

/-! ### calls -/
theorem args_run {f : Value} {pos : Pos} {args : List Expr} {ps : List PV} {t : Sem Value} {rest : List (Bool × Sem Value)} {s : Shared} {g : Gm} {E : Value → Shared → Prop} {Q : Args → Shared → Prop}
    (ha : Exs w A env V pos args ps) (I : Inv w s g env V) (hb : backTo pos (starEach args env) = (false, t) :: rest)
    (k : ∀ vs s' g', Grow s g s' g' → Reps g' vs ps → Inv w s' g' env V → Q ⟨vs, []⟩ s') : wpAny (MM w) A (evalArgs f true (backTo pos (starEach args env)) []) Q E s := by
  rw [hb]
  refine evalArgs_plain ?_
  rw [← hb]
  exact ha.run I k

theorem ex_callB {x : Str} {np pos : Pos} {args : List Expr} {id : String} {ps : List PV} {p : PV} {t : Sem Value} {rest : List (Bool × Sem Value)} (hf : Ex w A env V (.Name x np) (.val (.builtin id))) (ha : Exs w A env V pos args ps) (F : Fn w A (.builtin id) ps p)
    (hb : backTo pos (starEach args env) = (false, t) :: rest := by rfl) (hp : (backTo pos (starEach args env)).any (·.1) = false := by rfl) : Ex w A env V (.Call (.Name x np) args [] pos) p := by
  intro s g E I
  refine wpAny_Call_NameR (hf.run I fun v s₁ g₁ G₁ R₁ I₁ => ?_)
  cases (show Rep g₁ v (.val _) from R₁)
  refine callWith_builtin hp (args_run ha I₁ hb fun vs s₂ g₂ G₂ R₂ I₂ => ?_)
  exact F.run I₂.le I₂.base R₂ fun u s₃ g₃ G₃ R₃ => ⟨g₃, (G₁.trans G₂).trans G₃, R₃.T⟩
theorem ex_callT {x : Str} {np pos : Pos} {args : List Expr} {id : String} {ps : List PV} {p : PV} {t : Sem Value} {rest : List (Bool × Sem Value)} (hf : Ex w A env V (.Name x np) (.val (.type id))) (ha : Exs w A env V pos args ps) (F : Fn w A (.type id) ps p)
    (hb : backTo pos (starEach args env) = (false, t) :: rest := by rfl) (hp : (backTo pos (starEach args env)).any (·.1) = false := by rfl) : Ex w A env V (.Call (.Name x np) args [] pos) p := by
  intro s g E I
  refine wpAny_Call_NameR (hf.run I fun v s₁ g₁ G₁ R₁ I₁ => ?_)
  cases (show Rep g₁ v (.val _) from R₁)
  refine PySem.callWith_type hp (args_run ha I₁ hb fun vs s₂ g₂ G₂ R₂ I₂ => ?_)
  exact F.run I₂.le I₂.base R₂ fun u s₃ g₃ G₃ R₃ => ⟨g₃, (G₁.trans G₂).trans G₃, R₃.T⟩
theorem ex_callF {x : Str} {np pos : Pos} {args : List Expr} {a : Addr} {o : Obj} {fd : FuncData} {ps : List PV} {p : PV} {t : Sem Value} {rest : List (Bool × Sem Value)} (hf : Ex w A env V (.Name x np) (.val (.ref a))) (ha : Exs w A env V pos args ps) (F : Fn w A (.ref a) ps p)
    (hk : (KK w.params).lookup a = some o) (hd : o.data = .func fd)
    (hb : backTo pos (starEach args env) = (false, t) :: rest := by rfl) : Ex w A env V (.Call (.Name x np) args [] pos) p := by
  intro s g E I
  refine wpAny_Call_NameR (hf.run I fun v s₁ g₁ G₁ R₁ I₁ => ?_)
  cases (show Rep g₁ v (.val _) from R₁)
  refine callWith_function (o := o) (fd := fd) (args_run ha I₁ hb fun vs s₂ g₂ G₂ R₂ I₂ => ⟨⟨I₂.base.k _ _ hk, hd⟩, ?_⟩)
  exact F.run I₂.le I₂.base R₂ fun u s₃ g₃ G₃ R₃ => ⟨g₃, (G₁.trans G₂).trans G₃, R₃.T⟩

theorem fn_set {ns : List Int} (hh : A.handled = none) (hn : ns.length ≤ 1000) : Fn w A (.type "set") [.list (PI ns)] (.set (firstMet (fun i => ns.getD i 0) ns.length).length) := by
  intro s g vs E le B R
  cases R with
  | cons h r =>
    cases r
    obtain ⟨a, ws, rfl, hl, rs⟩ := (h.T (h := s.heap)).asList le rfl
    have hi := rs.ints
    have e := rs.length
    rw [Array.length_toList] at e
    simp only [PI, List.length_map] at e
    refine call_set_list hh hl hi (by unfold scanBound; omega) fun h' tk hS hk => ?_
    rw [e] at hS
    obtain ⟨o, es, ep, t, ho, hex, hd, _, _, _, hf, hsz⟩ := hS
    refine ⟨gadd g s.heap.objs.size o, Grow.new le (fun b o eo => hk b o (Heap.lt_size eo) eo) (get_size_none _) ho, ?_⟩
    rw [← hsz]
    exact Rep.set gadd_self hex hd hf
theorem fn_lenset {n : Nat} (hn : n ≤ 1000) : Fn w A (.builtin "len") [.set n] (.int n) := by
  intro s g vs E le B R
  cases R with
  | cons h r =>
    cases r
    cases h with
    | set h hex hd hf => exact call_len_set (le _ _ h) hex hd hf (by omega) ⟨g, Grow.toks le _, .int _ _⟩
end
end Mine
end
noncomputable section
open PySem PySem.W PySem.Calls PyProof.Rows
namespace Mine

def upd (x : Str) (p : PV) (V : Vars) : Vars := (x, p) :: V.filter fun q => !(q.1 == x)
theorem mem_upd {x y : Str} {p q : PV} {V : Vars} (h : (y, q) ∈ V) (hn : (y == x) = false) : (y, q) ∈ upd x p V := .tail _ (List.mem_filter.mpr ⟨h, by simp [hn]⟩)
theorem mem_upd_self {x : Str} {p : PV} {V : Vars} : (x, p) ∈ upd x p V := .head _
theorem of_mem_upd {x : Str} {p : PV} {V : Vars} {q : Str × PV} (h : q ∈ upd x p V) : q = (x, p) ∨ (q ∈ V ∧ q.1 ≠ x) := by
  cases h with
  | head => exact .inl rfl
  | tail _ h => obtain ⟨a, b⟩ := List.mem_filter.mp h; exact .inr ⟨a, by simpa using b⟩

def Apart (env : Env) (a : Addr) : Prop := a ≠ env.locals ∧ ∀ n c, env.cells.lookup n = some c → a ≠ c

structure SInv (w : World) (s₀ : Shared) (g₀ : Gm) (env : Env) (ks : List (Addr × Obj)) (gp : Gm) (s : Shared) (g : Gm) (V : Vars) : Prop where
  base₀ : Base w s₀.heap
  grow : Grow s₀ g₀ s g
  kind : env.scope.kind = .function
  globals : env.globals = mainGlobals
  builtins : env.builtins = builtinsNs
  vars : ∀ p ∈ V, ∃ v, Sees s.heap env p.1 v ∧ RepT s.heap g v p.2
  ns : ∃ m, s.heap.Ns env.locals m
  nL : s₀.heap.get? env.locals = none
  gL : g env.locals = none
  cells : ∀ n c, env.cells.lookup n = some c → (∃ v, s.heap.IsCell c v) ∧ s₀.heap.get? c = none ∧ g c = none ∧ c ≠ env.locals
  apart : env.cells.Pairwise fun x y => x.2 ≠ y.2
  pin : ∀ a o, gp a = some o → g a = some o
  muts : ∀ x a l, (x, .mut a l) ∈ V → s₀.heap.get? a = none ∧ g a = none ∧ Apart env a
  kept : ∀ p ∈ ks, s.heap.get? p.1 = some p.2 ∧ s₀.heap.get? p.1 = none ∧ g p.1 = none ∧ Apart env p.1 ∧ ∀ x a l, (x, .mut a l) ∈ V → a ≠ p.1

section
variable {w : World} {A : Around} {env : Env} {V : Vars} {s₀ s : Shared} {g₀ g : Gm} {ks : List (Addr × Obj)} {gp : Gm} {E : Value → Shared → Prop}

theorem SInv.inv (S : SInv w s₀ g₀ env ks gp s g V) : Inv w s g env V := ⟨S.grow.le, S.base₀.mono S.grow.get, S.kind, S.globals, S.builtins, S.vars⟩

theorem Ns.some {h : Heap} {a : Addr} {m : Str → Option Value} (n : h.Ns a m) : ∃ o, h.get? a = some o := let ⟨o, _, _, e, _⟩ := n; ⟨o, e⟩

/-- an expression was reckoned -/
theorem SInv.step {s' : Shared} {g' : Gm} (S : SInv w s₀ g₀ env ks gp s g V) (G : Grow s g s' g') : SInv w s₀ g₀ env ks gp s' g' V where
  base₀ := S.base₀
  grow := S.grow.trans G
  kind := S.kind
  globals := S.globals
  builtins := S.builtins
  vars := (S.inv.grow G).vars
  ns := let ⟨m, a⟩ := S.ns; ⟨m, a.keeps G.get⟩
  nL := S.nL
  gL := by obtain ⟨m, a⟩ := S.ns; obtain ⟨o, e⟩ := Ns.some a; exact G.stays e S.gL
  cells := fun n c h => by
    obtain ⟨⟨v, o, a, b⟩, n0, gc, ne⟩ := S.cells n c h
    exact ⟨⟨v, o, G.get _ _ a, b⟩, n0, G.stays a gc, ne⟩
  apart := S.apart
  pin := fun a o e => G.sub a o (S.pin a o e)
  muts := fun x a l h => by
    obtain ⟨n0, ga, ap⟩ := S.muts x a l h
    obtain ⟨v, _, e, vs, n, o, _⟩ := S.vars _ h
    exact ⟨n0, G.stays o ga, ap⟩
  kept := fun p h => by
    obtain ⟨a, b, c, d⟩ := S.kept p h
    exact ⟨G.get _ _ a, b, G.stays a c, d⟩

/-- fewer variables -/
theorem SInv.less {V' : Vars} (S : SInv w s₀ g₀ env ks gp s g V) (h : ∀ q ∈ V', q ∈ V) : SInv w s₀ g₀ env ks gp s g V' :=
  { S with vars := fun p hp => S.vars p (h p hp), muts := fun x a l hp => S.muts x a l (h _ hp), kept := fun p hp => let ⟨a, b, c, d, e⟩ := S.kept p hp; ⟨a, b, c, d, fun x a l hm => e x a l (h _ hm)⟩ }

def slotB (env : Env) (x : Str) : Bool := env.kindOf x == some .local || (env.kindOf x == some .cell && (env.cells.lookup x).isSome)

/-- the object at b changes, all that is known does not lie there -/
theorem SInv.change {b : Addr} {h' : Heap} {tk : Nat} {V' : Vars} (S : SInv w s₀ g₀ env ks gp s g V) (hb0 : s₀.heap.get? b = none) (hgb : g b = none) (k : ∀ a o, a ≠ b → s.heap.get? a = some o → h'.get? a = some o)
    (hns : ∃ m, h'.Ns env.locals m) (hcells : ∀ n c, env.cells.lookup n = some c → ∃ v, h'.IsCell c v) (hks : ∀ p ∈ ks, p.1 ≠ b)
    (hv : ∀ p ∈ V', ∃ v, Sees h' env p.1 v ∧ RepT h' g v p.2) (hm : ∀ x a l, (x, .mut a l) ∈ V' → s₀.heap.get? a = none ∧ g a = none ∧ Apart env a) (hkm : ∀ p ∈ ks, ∀ x a l, (x, .mut a l) ∈ V' → a ≠ p.1) :
    SInv w s₀ g₀ env ks gp { s with heap := h', toks := tk } g V' where
  base₀ := S.base₀
  grow := S.grow.but hb0 hgb k
  kind := S.kind
  globals := S.globals
  builtins := S.builtins
  vars := hv
  ns := hns
  nL := S.nL
  gL := S.gL
  cells := fun n c h => ⟨hcells n c h, (S.cells n c h).2⟩
  apart := S.apart
  pin := S.pin
  muts := hm
  kept := fun p hp => let ⟨a, b, c, d, _⟩ := S.kept p hp; ⟨k _ _ (hks p hp) a, b, c, d, hkm p hp⟩

theorem RepT.at {h h' : Heap} {g : Gm} {v : Value} : ∀ {p : PV}, RepT h g v p → (∀ a l, p = .mut a l → ∀ o, h.get? a = some o → h'.get? a = some o) → RepT h' g v p
  | .none, r, _ => r
  | .bool _, r, _ => r
  | .int _, r, _ => r
  | .str _, r, _ => r
  | .val _, r, _ => r
  | .list _, r, _ => r
  | .tup _, r, _ => r
  | .range _ _ _, r, _ => r
  | .set _, r, _ => r
  | .emp, r, _ => r
  | .obj _, r, _ => r
  | .hdr _, r, _ => r
  | .mut _ _, ⟨e, vs, n, a, b⟩, k => ⟨e, vs, n, k _ _ rfl _ a, b⟩

theorem lookup_of_mem_ne {x y : Str} {b c : Addr} (ap : env.cells.Pairwise fun x y => x.2 ≠ y.2) (hx : env.cells.lookup x = some b) (hy : env.cells.lookup y = some c) (hne : y ≠ x) : c ≠ b := by
  rintro rfl
  exact hne (name_of_addr ap (mem_of_lookup hy) (mem_of_lookup hx))

theorem SInv.store {M : Model} {x : Str} {v : Value} {p : PV} {Q : Unit → Shared → Prop} (S : SInv w s₀ g₀ env ks gp s g V) (hx : slotB env x = true) (R : RepT s.heap g v p)
    (hm : ∀ a l, p = .mut a l → s₀.heap.get? a = none ∧ g a = none ∧ Apart env a ∧ ∀ p ∈ ks, a ≠ p.1)
    (k : ∀ s', SInv w s₀ g₀ env ks gp s' g (upd x p V) → Q () s') : wpAny M A (storeName env x v) Q E s := by
  unfold slotB at hx
  have hmut : ∀ y a l, (y, PV.mut a l) ∈ upd x p V → s₀.heap.get? a = none ∧ g a = none ∧ Apart env a := fun y a l h => by
    rcases of_mem_upd h with e | ⟨h, _⟩
    · cases e; exact let ⟨a, b, c, _⟩ := hm _ _ rfl; ⟨a, b, c⟩
    · exact S.muts y a l h
  have hkm : ∀ q ∈ ks, ∀ y a l, (y, PV.mut a l) ∈ upd x p V → a ≠ q.1 := fun q hq y a l h => by
    rcases of_mem_upd h with e | ⟨h, _⟩
    · cases e; exact (hm _ _ rfl).2.2.2 q hq
    · exact (S.kept q hq).2.2.2.2 y a l h
  rcases Bool.or_eq_true_iff.mp hx with hl | hc
  · have hl' : env.kindOf x = some .local := by simpa using hl
    obtain ⟨m, hn⟩ := S.ns
    refine wpAny_storeName_local hl' hn (fun h' hn' hs' => k _ ?_) (by rw [S.kind]; rfl)
    have kp : ∀ a o, a ≠ env.locals → s.heap.get? a = some o → h'.get? a = some o := fun a o ha e => hs'.extBut a o ha e
    refine S.change S.nL S.gL kp ⟨_, hn'⟩ (fun n c hc => ?_) (fun q hq => (S.kept q hq).2.2.2.1.1) (fun q hq => ?_) hmut hkm
    · obtain ⟨⟨v, o, a, b⟩, _, _, ne⟩ := S.cells n c hc
      exact ⟨v, o, kp _ _ ne a, b⟩
    · rcases of_mem_upd hq with rfl | ⟨hq, hne⟩
      · exact ⟨v, .inl ⟨hl', _, hn', by simp⟩, R.at fun a l e o ho => kp a o (hm a l e).2.2.1.1 ho⟩
      · obtain ⟨u, su, ru⟩ := S.vars q hq
        refine ⟨u, ?_, ru.at fun a l e o ho => kp a o ?_ ho⟩
        · rcases su with ⟨kl, m', hn2, hmu⟩ | ⟨kc, c, hc, o, ho, hd⟩
          · refine .inl ⟨kl, _, hn', ?_⟩
            have : m' = m := by
              obtain ⟨o1, es1, ep1, a1, b1, _, d1⟩ := hn
              obtain ⟨o2, es2, ep2, a2, b2, _, d2⟩ := hn2
              rw [a1] at a2; cases a2; rw [b1] at b2; cases b2
              funext z; rw [← d1, ← d2]
            subst this
            simpa [hne] using hmu
          · exact .inr ⟨kc, c, hc, o, kp _ _ (S.cells _ c hc).2.2.2 ho, hd⟩
        · have : q = (q.1, PV.mut a l) := by rw [← e]
          exact (S.muts q.1 a l (this ▸ hq)).2.2.1
  · obtain ⟨h1, h2⟩ := Bool.and_eq_true_iff.mp hc
    have hk' : env.kindOf x = some .cell := by simpa using h1
    obtain ⟨b, hb⟩ := Option.isSome_iff_exists.mp h2
    obtain ⟨⟨v₀, hcell⟩, nb0, gb, bL⟩ := S.cells x b hb
    refine wpAny_storeName_cell S.kind hk' hb hcell fun h' hc' hs' => k _ ?_
    have kp : ∀ a o, a ≠ b → s.heap.get? a = some o → h'.get? a = some o := fun a o ha e => hs'.extBut a o ha e
    refine S.change (tk := s.toks) nb0 gb kp (let ⟨m, hn⟩ := S.ns; ⟨m, hn.sameBut hs' (Ne.symm bL)⟩) (fun n c hc => ?_) (fun q hq => (S.kept q hq).2.2.2.1.2 _ _ hb) (fun q hq => ?_) hmut hkm
    · obtain ⟨⟨v, o, a, d⟩, _, _, ne⟩ := S.cells n c hc
      by_cases e : c = b
      · subst e; exact ⟨_, hc'⟩
      · exact ⟨v, o, kp _ _ e a, d⟩
    · rcases of_mem_upd hq with rfl | ⟨hq, hne⟩
      · exact ⟨v, .inr ⟨.inl hk', b, hb, hc'⟩, R.at fun a l e o ho => kp a o ((hm a l e).2.2.1.2 _ _ hb) ho⟩
      · obtain ⟨u, su, ru⟩ := S.vars q hq
        refine ⟨u, ?_, ru.at fun a l e o ho => kp a o ?_ ho⟩
        · rcases su with ⟨kl, m', hn2, hmu⟩ | ⟨kc, c, hc, o, ho, hd⟩
          · exact .inl ⟨kl, _, hn2.sameBut hs' (Ne.symm bL), hmu⟩
          · exact .inr ⟨kc, c, hc, o, kp _ _ (lookup_of_mem_ne S.apart hb hc hne) ho, hd⟩
        · have : q = (q.1, PV.mut a l) := by rw [← e]
          exact (S.muts q.1 a l (this ▸ hq)).2.2.2 _ _ hb

theorem SInv.storeF {M : Model} {x : Str} {v : Value} {p : PV} {Q : Unit → Shared → Prop} (S : SInv w s₀ g₀ env ks gp s g V) (hx : slotB env x = true) (R : Rep g v p)
    (k : ∀ s', SInv w s₀ g₀ env ks gp s' g (upd x p V) → Q () s') : wpAny M A (storeName env x v) Q E s :=
  S.store hx R.T (fun a l e => by subst e; cases R) k

/-! ### what a function's body gives back -/
def RetP (s₀ : Shared) (g₀ : Gm) (p : PV) : Flow → Shared → Prop := fun fl s' => ∃ v g', fl = .ret v ∧ Grow s₀ g₀ s' g' ∧ Rep g' v p

theorem bindL_other {kindOf : Str → Option NameKind} {x : Str} : ∀ (binds : List (Str × Value)) (m : Str → Option Value), x ∉ binds.map (·.1) → bindL kindOf binds m x = m x
  | [], _, _ => rfl
  | (n, v) :: r, m, h => by
    unfold bindL
    rw [bindL_other r _ fun q => h (.tail _ q)]
    split
    · have : x ≠ n := fun e => h (e ▸ .head _)
      simp [this]
    · rfl
theorem bindL_get {kindOf : Str → Option NameKind} {x : Str} {v : Value} (hk : kindOf x = some .local) : ∀ (binds : List (Str × Value)) (m : Str → Option Value), (binds.map (·.1)).Nodup → (x, v) ∈ binds → bindL kindOf binds m x = some v
  | (n, u) :: r, m, hd, h => by
    unfold bindL
    obtain ⟨h1, h2⟩ := List.nodup_cons.mp hd
    cases h with
    | head => rw [bindL_other r _ h1, if_pos hk]; simp
    | tail _ h => exact bindL_get hk r _ h2 h
theorem bindC_other {kindOf : Str → Option NameKind} {x : Str} : ∀ (binds : List (Str × Value)) (m : Str → Option Value), x ∉ binds.map (·.1) → bindC kindOf binds m x = m x
  | [], _, _ => rfl
  | (n, v) :: r, m, h => by
    unfold bindC
    rw [bindC_other r _ fun q => h (.tail _ q)]
    split
    · rfl
    · have : x ≠ n := fun e => h (e ▸ .head _)
      simp [this]
theorem bindC_get {kindOf : Str → Option NameKind} {x : Str} {v : Value} (hk : kindOf x ≠ some .local) : ∀ (binds : List (Str × Value)) (m : Str → Option Value), (binds.map (·.1)).Nodup → (x, v) ∈ binds → bindC kindOf binds m x = some v
  | (n, u) :: r, m, hd, h => by
    unfold bindC
    obtain ⟨h1, h2⟩ := List.nodup_cons.mp hd
    cases h with
    | head => rw [bindC_other r _ h1, if_neg hk]; simp
    | tail _ h => exact bindC_get hk r _ h2 h

theorem Reps.zip {g : Gm} : ∀ {vs : List Value} {ps : List PV} {xs : List Str}, Reps g vs ps → ∀ q ∈ xs.zip ps, ∃ v, (q.1, v) ∈ xs.zip vs ∧ Rep g v q.2
  | _, _, [], _, q, h => by simp at h
  | _, _, _ :: _, .nil, q, h => by simp at h
  | _, _, x :: xs, .cons (v := v) h r, q, hq => by
    cases hq with
    | head => exact ⟨v, .head _, h⟩
    | tail _ hq => obtain ⟨u, a, b⟩ := Reps.zip r q hq; exact ⟨u, .tail _ a, b⟩

def prmOk (names : List (Str × NameKind)) (x : Str) : Bool := names.lookup x == some .local || names.lookup x == some .cell

theorem fn_intro {k : Nat} {a : Addr} {o : Obj} {fd : FuncData} {body : List Stmt} {xs : List Str} {ps : List PV} {p : PV} (hA : AOk (k + 1) A) (hk : (KK w.params).lookup a = some o) (hd : o.data = .func fd) (hb : fd.body = .stmts body) (hclo : fd.closure = [])
    (hcode : codeIn (KK w.params) fd.code fd.qualname = true) (hbind : ∀ vs : List Value, vs.length = xs.length → bindArgs fd ⟨vs, []⟩ = pure (xs.zip vs)) (hlen : ps.length = xs.length) (hnd : xs.Nodup) (hprm : xs.all (prmOk fd.scope.names) = true)
    (hglob : fd.globals = mainGlobals) (hblt : fd.builtins = builtinsNs) (hkind : fd.scope.kind = .function) (hco : fd.scope.isCoroutine = false) (hgen : fd.scope.isGenerator = false) (hps : ps.all PV.fz = true)
    (h : ∀ (L : Addr) (s₀ : Shared) (g₀ : Gm) (s : Shared) (g : Gm) (E : Value → Shared → Prop), SInv w s₀ g₀ (callEnvC fd L a) [] g₀ s g (xs.zip ps) → AOk k (A.deeper (callEnvC fd L a)) →
      wpAny (MM w) (A.deeper (callEnvC fd L a)) (execs body (callEnvC fd L a)) (RetP s₀ g₀ p) E s) : Fn w A (.ref a) ps p := by
  intro s g vs E le B R
  have hl : vs.length = xs.length := R.length.trans hlen
  have hkeys : (xs.zip vs).map (·.1) = xs := by rw [List.map_fst_zip]; omega
  have hfrom : ∀ x ∈ xs, fd.scope.names.lookup x = some .local ∨ (fd.scope.names.lookup x = some .cell ∧ ((cellsFrom (s.heap.objs.size + 1) fd.scope.names []).lookup x).isSome = true) := fun x hx => by
    have := List.all_eq_true.mp hprm x hx
    unfold prmOk at this
    rcases Bool.or_eq_true_iff.mp this with e | e
    · exact .inl (by simpa using e)
    · have e' : fd.scope.names.lookup x = some .cell := by simpa using e
      obtain ⟨c, hc, _⟩ := cells_new fd.scope.names (s.heap.push { cls := .none, data := .plain }) [] (mem_of_lookupK e')
      rw [Heap.size_push] at hc
      exact .inr ⟨e', by rw [hc]; rfl⟩
  refine wpAny_call (codeAny_call_cells (fd := fd) (body := body) (binds := xs.zip vs) hA.room (B.k _ _ hk) hd B.nolimit (codeRec_of B.k hcode) hb (hbind vs hl) hclo (fun x hx => hfrom x.1 (hkeys ▸ List.mem_map_of_mem hx)) (fun s₁ X => ?_) hco hgen hkind)
  obtain ⟨⟨⟨h₁, tk, rfl⟩, hns, hkeep, hfresh⟩, hcell, hap, habove⟩ := X
  have nL : s.heap.get? s.heap.objs.size = none := get_size_none _
  have above : ∀ c, s.heap.objs.size ≤ c → s.heap.get? c = none := fun c hc => by
    cases e : s.heap.get? c with
    | none => rfl
    | some o => exact absurd (Heap.lt_size e) (Nat.not_lt.mpr hc)
  have gn : ∀ a, s.heap.get? a = none → g a = none := fun a ha => by
    cases e : g a with
    | none => rfl
    | some o => rw [le _ _ e] at ha; cases ha
  have S : SInv w s g (callEnvC fd s.heap.objs.size a) [] g { s with heap := h₁, toks := tk } g (xs.zip ps) := by
    refine ⟨B, Grow.keep le hkeep, hkind, hglob, hblt, fun q hq => ?_, ⟨_, hns⟩, nL, gn _ nL, fun n c hc => ?_, hap, fun _ _ e => e, fun x b l hm => ?_, fun p hp => nomatch hp⟩
    · obtain ⟨v, hv, rv⟩ := R.zip q hq
      refine ⟨v, ?_, rv.T⟩
      have hx : q.1 ∈ xs := by have := List.mem_map_of_mem (f := (·.1)) hv; rw [hkeys] at this; exact this
      rcases hfrom q.1 hx with e | ⟨e, e2⟩
      · exact .inl ⟨e, _, hns, bindL_get (kindOf := (callEnvC fd s.heap.objs.size a).kindOf) e _ _ (by rw [hkeys]; exact hnd) hv⟩
      · obtain ⟨c, hc⟩ := Option.isSome_iff_exists.mp e2
        refine .inr ⟨.inl e, c, hc, ?_⟩
        have := hcell q.1 c hc
        rwa [bindC_get (kindOf := (callEnvC fd s.heap.objs.size a).kindOf) (by rw [show (callEnvC fd s.heap.objs.size a).kindOf q.1 = some .cell from e]; decide) _ _ (by rw [hkeys]; exact hnd) hv] at this
    · have h1 := habove n c (mem_of_lookup hc)
      have h2 : s.heap.get? c = none := above c (Nat.le_of_lt h1)
      exact ⟨⟨_, hcell n c hc⟩, h2, gn _ h2, Nat.ne_of_gt h1⟩
    · exfalso
      have : (PV.mut b l) ∈ ps := (List.of_mem_zip hm).2
      have := List.all_eq_true.mp hps _ this
      cases this
  refine wpAny_mono (h s.heap.objs.size s g _ g _ S hA.deeper) (fun fl s' hf => ?_) fun _ _ x => x
  obtain ⟨v, g', rfl, G, rv⟩ := hf
  exact ⟨g', G, rv⟩

theorem st_return {e : Expr} {pos : Pos} {rest : List Stmt} {p : PV} {Q : Flow → Shared → Prop} (S : SInv w s₀ g₀ env ks gp s g V) (h : Ex w A env V e p) (hp : p.fz = true)
    (hQ : ∀ v s' g', Grow s₀ g₀ s' g' → Rep g' v p → Q (.ret v) s' := by exact fun v s' g' G R => ⟨v, g', rfl, G, R⟩) : wpAny (MM w) A (execs (.Return (some e) pos :: rest) env) Q E s :=
  wpAny_execs_cons (wpAny_Return_some (h.run S.inv fun v s' g' G R _ => hQ v s' g' (S.grow.trans G) (R.fz hp)))
end
end Mine
end
noncomputable section
open PySem PySem.W PySem.Calls PyProof.Rows
namespace Mine

def LoopQ (inv brk : Shared → Prop) (ret : Value → Shared → Prop) : Flow → Shared → Prop
  | .next, s => inv s
  | .cont, s => inv s
  | .brk, s => brk s
  | .ret v, s => ret v s
/-- what stands behind a statement -/
def Then (w : World) (A : Around) (env : Env) (rest : List Stmt) (Q : Flow → Shared → Prop) (E : Value → Shared → Prop) : Flow → Shared → Prop := fun f s' => match f with
  | .next => wpAny (MM w) A (execs rest env) Q E s'
  | f => Q f s'

section
variable {w : World} {A : Around} {env : Env} {V : Vars} {s₀ s : Shared} {g₀ g : Gm} {ks : List (Addr × Obj)} {gp : Gm} {E : Value → Shared → Prop} {Q : Flow → Shared → Prop} {rest : List Stmt}

theorem st_nil (h : Q .next s) : wpAny (MM w) A (execs [] env) Q E s := wpAny_execs_nil h

theorem st_assign {x : Str} {px pos : Pos} {value : Expr} {p : PV} (S : SInv w s₀ g₀ env ks gp s g V) (h : Ex w A env V value p) (hp : p.fz = true) (hx : slotB env x = true)
    (k : ∀ s' g', SInv w s₀ g₀ env ks gp s' g' (upd x p V) → wpAny (MM w) A (execs rest env) Q E s') (hsw : swapsWith value (some (.Name x px)) pos.line env = pure false := by rfl) :
    wpAny (MM w) A (execs (.Assign [.Name x px] value pos :: rest) env) Q E s :=
  wpAny_execs_cons (wpAny_Assign_Name (h.run S.inv fun _ _ g' G R _ => (S.step G).storeF hx (R.fz hp) fun s'' S'' => k s'' g' S'') hsw)

theorem SInv.pop {q : Addr × Obj} (S : SInv w s₀ g₀ env (q :: ks) gp s g V) : SInv w s₀ g₀ env ks gp s g V := { S with kept := fun p hp => S.kept p (.tail _ hp) }

theorem fresh_apart {a : Addr} (S : SInv w s₀ g₀ env ks gp s g V) (h : s.heap.get? a = none) : s₀.heap.get? a = none ∧ g a = none ∧ Apart env a ∧ (∀ x b l, (x, .mut b l) ∈ V → b ≠ a) ∧ ∀ p ∈ ks, p.1 ≠ a := by
  refine ⟨?_, ?_, ⟨?_, fun n c hc => ?_⟩, fun x b l hm => ?_, fun p hp => ?_⟩
  · cases e : s₀.heap.get? a with
    | none => rfl
    | some o => rw [S.grow.get _ _ e] at h; cases h
  · cases e : g a with
    | none => rfl
    | some o => rw [S.grow.le _ _ e] at h; cases h
  · rintro rfl
    obtain ⟨m, hn⟩ := S.ns
    obtain ⟨o, e⟩ := Ns.some hn
    rw [h] at e; cases e
  · rintro rfl
    obtain ⟨⟨v, o, e, _⟩, _⟩ := S.cells n a hc
    rw [h] at e; cases e
  · rintro rfl
    obtain ⟨v, _, e, vs, n, o, _⟩ := S.vars _ hm
    rw [h] at o; cases o
  · rintro rfl
    have := (S.kept p hp).1
    rw [h] at this; cases this

/-- a new object is held, beside the frozen part -/
theorem SInv.hold {a : Addr} {o : Obj} {h' : Heap} {tk : Nat} (S : SInv w s₀ g₀ env ks gp s g V) (ha : s.heap.get? a = none) (k : ∀ b o, s.heap.get? b = some o → h'.get? b = some o) (ho : h'.get? a = some o) :
    SInv w s₀ g₀ env ((a, o) :: ks) gp { s with heap := h', toks := tk } g V := by
  have S' : SInv w s₀ g₀ env ks gp { s with heap := h', toks := tk } g V := S.step (Grow.keep S.grow.le k)
  obtain ⟨n0, ga, ap, hm, hk⟩ := fresh_apart S ha
  refine { S' with kept := fun p hp => ?_ }
  cases hp with
  | head => exact ⟨ho, n0, ga, ap, hm⟩
  | tail _ hp => exact S'.kept p hp

/-- a held object changes -/
theorem SInv.turn {a : Addr} {o o' : Obj} {h' : Heap} {tk : Nat} (S : SInv w s₀ g₀ env ((a, o) :: ks) gp s g V) (hne : ∀ p ∈ ks, p.1 ≠ a) (k : ∀ b o, b ≠ a → s.heap.get? b = some o → h'.get? b = some o) (ho : h'.get? a = some o') :
    SInv w s₀ g₀ env ((a, o') :: ks) gp { s with heap := h', toks := tk } g V := by
  obtain ⟨h1, n0, ga, ap, hm⟩ := S.kept _ (.head _)
  have S' : SInv w s₀ g₀ env ks gp { s with heap := h', toks := tk } g V := by
    refine S.pop.change n0 ga k ?_ (fun n c hc => ?_) hne (fun p hp => ?_) S.muts fun p hp => (S.kept p (.tail _ hp)).2.2.2.2
    · obtain ⟨m, hn⟩ := S.ns
      exact ⟨m, hn.at' fun o e => k _ _ (Ne.symm ap.1) e⟩
    · obtain ⟨⟨v, o, e, d⟩, _⟩ := S.cells n c hc
      exact ⟨v, o, k _ _ (Ne.symm (ap.2 _ _ hc)) e, d⟩
    · obtain ⟨u, su, ru⟩ := S.vars p hp
      refine ⟨u, ?_, ru.at fun b l e o ho => k b o ?_ ho⟩
      · rcases su with ⟨kl, m, hn, hmu⟩ | ⟨kc, c, hc, o, ho, hd⟩
        · exact .inl ⟨kl, m, hn.at' fun o e => k _ _ (Ne.symm ap.1) e, hmu⟩
        · exact .inr ⟨kc, c, hc, o, k _ _ (Ne.symm (ap.2 _ _ hc)) ho, hd⟩
      · have : p = (p.1, PV.mut b l) := by rw [← e]
        exact hm p.1 b l (this ▸ hp)
  refine { S' with kept := fun p hp => ?_ }
  cases hp with
  | head => exact ⟨ho, n0, ga, ap, hm⟩
  | tail _ hp => exact S'.kept p hp

theorem SInv.repin {gp' : Gm} (S : SInv w s₀ g₀ env ks gp s g V) (h : ∀ a o, gp' a = some o → g a = some o) : SInv w s₀ g₀ env ks gp' s g V := { S with pin := h }

theorem st_forP {x : Str} {px pos : Pos} {iter : Expr} {body orelse : List Stmt} {pi : PV} {α : Type} {xs : List α} (cc : α → PV) (VF : Nat → Vars) (P : Nat → Prop) (hP : P 0) (S : SInv w s₀ g₀ env ks gp s g V) (hi : Ex w A env V iter pi) (hit : ItrF w A pi (xs.map cc)) (hx : slotB env x = true)
    (h0 : ∀ q ∈ VF 0, q ∈ V)
    (hb : ∀ (i : Nat) (a : α) (I : Addr) (ob : Obj) (gp' : Gm) (s' : Shared) (g' : Gm) (E' : Value → Shared → Prop), xs[i]? = some a → (∀ a o, gp a = some o → gp' a = some o) → P i → SInv w s₀ g₀ env ((I, ob) :: ks) gp' s' g' (upd x (cc a) (VF i)) →
      wpAny (MM w) A (execs body env) (LoopQ (fun s'' => P (i + 1) ∧ ∃ g'', SInv w s₀ g₀ env ((I, ob) :: ks) gp' s'' g'' (VF (i + 1))) (fun s'' => wpAny (MM w) A (execs rest env) Q E s'') fun v s'' => Q (.ret v) s'') E' s')
    (hend : ∀ (s' : Shared) (g' : Gm) (E' : Value → Shared → Prop), P xs.length → SInv w s₀ g₀ env ks gp s' g' (VF xs.length) → wpAny (MM w) A (execs orelse env) (Then w A env rest Q E) E' s')
    (hs : ∀ x, foldedSetIterable iter env x = pure x := by intro _; rfl) :
    wpAny (MM w) A (execs (.For (.Name x px) iter body orelse pos :: rest) env) Q E s := by
  refine wpAny_execs_cons (wpAny_For (hi.run S.inv fun xv s₁ g₁ G₁ R₁ I₁ => ?_) hs)
  have S₁ := S.step G₁
  refine hit s₁ g₁ xv E _ I₁.le R₁ fun I h₂ fp n PW St hk₂ W => ?_
  obtain ⟨oI, eI⟩ := W.live 0 h₂ W.start
  have S₂ : SInv w s₀ g₀ env ((I, oI) :: ks) gp { s₁ with heap := h₂ } g₁ V := S₁.hold (tk := s₁.toks) W.new hk₂ eI
  obtain ⟨nI0, gI1, apI, mI, hkI⟩ := fresh_apart S₁ W.new
  have hlen : n = xs.length := by have := W.len; rwa [List.length_map] at this
  -- from heap to heap what the iterator leans on stays
  have fr : ∀ (i : Nat) (h h' : Heap) (o : Obj), St i h → h.get? I = some o → h'.get? I = some o → Le g₁ h → Le g₁ h' → St i h' := fun i h h' o st e1 e2 l1 l2 => by
    refine W.walks.frame i h h' st fun b hb o' e => ?_
    by_cases q : b = I
    · subst q; rw [e1] at e; cases e; exact e2
    · obtain ⟨o2, e3⟩ := W.fp b hb q
      rw [l1 _ _ e3] at e; cases e; exact l2 _ _ e3
  refine codeAny_forLoop_any (fun m s' => ∃ i ob g', m = n + 1 - i ∧ i ≤ n ∧ P i ∧ SInv w s₀ g₀ env ((I, ob) :: ks) g₁ s' g' (VF i) ∧ St i s'.heap) ?_ (n + 1) ?_
  · rintro m s' ⟨i, ob, g', rfl, hin, hPi, S', st⟩
    by_cases hlt : i < n
    · refine W.walks.item i s' _ _ hlt st fun v h₅ tk₅ hP st₅ hk₅ => ?_
      obtain ⟨q', hq', rq⟩ := W.item i v hlt hP
      rw [List.getElem?_map] at hq'
      obtain ⟨q, hq, rfl⟩ := Option.map_eq_some_iff.mp hq'
      obtain ⟨o₅, e₅⟩ := W.live _ _ st₅
      have S₅ : SInv w s₀ g₀ env ((I, o₅) :: ks) g₁ { s' with heap := h₅, toks := tk₅ } g' (VF i) := S'.turn hkI (fun b o hb e => hk₅ b o (by simpa using hb) e) e₅
      refine wpAny_of_eq (a := ()) rfl ?_
      refine wpAny_assign_Name (S₅.storeF hx (rq.mono S₅.pin) fun s₆ S₆ => ?_)
      have e₆ := (S₆.kept _ (.head _)).1
      have st₆ : St (i + 1) s₆.heap := fr _ _ _ _ st₅ e₅ e₆ (fun a o e => S₅.grow.le _ _ (S₅.pin _ _ e)) fun a o e => S₆.grow.le _ _ (S₆.pin _ _ e)
      refine wpAny_mono (hb i q I o₅ g₁ s₆ g' _ hq (fun a o e => S₁.pin a o e) hPi S₆) (fun f s₇ h₇ => ?_) fun _ _ e => e
      cases f with
      | next =>
        obtain ⟨hP₇, g₇, S₇⟩ := h₇
        exact ⟨n + 1 - (i + 1), by omega, i + 1, o₅, g₇, rfl, hlt, hP₇, S₇, fr _ _ _ _ st₆ e₆ (S₇.kept _ (.head _)).1 (fun a o e => S₆.grow.le _ _ (S₆.pin _ _ e)) fun a o e => S₇.grow.le _ _ (S₇.pin _ _ e)⟩
      | cont =>
        obtain ⟨hP₇, g₇, S₇⟩ := h₇
        exact ⟨n + 1 - (i + 1), by omega, i + 1, o₅, g₇, rfl, hlt, hP₇, S₇, fr _ _ _ _ st₆ e₆ (S₇.kept _ (.head _)).1 (fun a o e => S₆.grow.le _ _ (S₆.pin _ _ e)) fun a o e => S₇.grow.le _ _ (S₇.pin _ _ e)⟩
      | brk => exact h₇
      | ret v => exact h₇
    · have hin' : i = n := by omega
      subst hin'
      refine W.walks.done _ _ _ st fun h₅ tk₅ hk₅ => ?_
      have S₅ : SInv w s₀ g₀ env ks g₁ { s' with heap := h₅, toks := tk₅ } g' (VF i) := by
        obtain ⟨h1, n0, ga, ap, hm⟩ := S'.kept _ (.head _)
        have k : ∀ b o, b ≠ I → s'.heap.get? b = some o → h₅.get? b = some o := fun b o hb e => hk₅ b o (by simpa using hb) e
        refine S'.pop.change n0 ga k ?_ (fun n c hc => ?_) hkI (fun p hp => ?_) S'.muts fun p hp => (S'.kept p (.tail _ hp)).2.2.2.2
        · obtain ⟨m, hn⟩ := S'.ns
          exact ⟨m, hn.at' fun o e => k _ _ (Ne.symm ap.1) e⟩
        · obtain ⟨⟨v, o, e, d⟩, _⟩ := S'.cells n c hc
          exact ⟨v, o, k _ _ (Ne.symm (ap.2 _ _ hc)) e, d⟩
        · obtain ⟨u, su, ru⟩ := S'.vars p hp
          refine ⟨u, ?_, ru.at fun b l e o ho => k b o ?_ ho⟩
          · rcases su with ⟨kl, m, hn, hmu⟩ | ⟨kc, c, hc, o, ho, hd⟩
            · exact .inl ⟨kl, m, hn.at' fun o e => k _ _ (Ne.symm ap.1) e, hmu⟩
            · exact .inr ⟨kc, c, hc, o, k _ _ (Ne.symm (ap.2 _ _ hc)) ho, hd⟩
          · have : p = (p.1, PV.mut b l) := by rw [← e]
            exact hm p.1 b l (this ▸ hp)
      have S₆ : SInv w s₀ g₀ env ks gp { s' with heap := h₅, toks := tk₅ } g' (VF i) := S₅.repin fun a o e => S₅.pin _ _ (S₁.pin _ _ e)
      rw [hlen] at S₆ hPi
      exact wpAny_mono (hend _ g' _ hPi S₆) (fun f s₆ h₆ => h₆) fun _ _ e => e
  · exact ⟨0, oI, g₁, rfl, Nat.zero_le _, hP, (S₂.less h0).repin fun _ _ e => e, W.start⟩

theorem st_forK {x : Str} {px pos : Pos} {iter : Expr} {body orelse : List Stmt} {pi : PV} {α : Type} {xs : List α} (cc : α → PV) (VF : Nat → Vars) (KF : Nat → Gm → List (Addr × Obj) → Prop) (as : List Addr) (hKa : ∀ i g ks, KF i g ks → ks.map (·.1) = as) (hKm : ∀ i g g' ks, (∀ a o, g a = some o → g' a = some o) → KF i g ks → KF i g' ks) (hK0 : KF 0 g ks) (S : SInv w s₀ g₀ env ks gp s g V) (hi : Ex w A env V iter pi) (hit : ItrF w A pi (xs.map cc)) (hx : slotB env x = true)
    (h0 : ∀ q ∈ VF 0, q ∈ V)
    (hb : ∀ (i : Nat) (a : α) (I : Addr) (ob : Obj) (gp' : Gm) (s' : Shared) (g' : Gm) (E' : Value → Shared → Prop), xs[i]? = some a → (∀ a o, gp a = some o → gp' a = some o) → ∀ ks', KF i g' ks' → (∀ p ∈ ks', p.1 ≠ I) → SInv w s₀ g₀ env ((I, ob) :: ks') gp' s' g' (upd x (cc a) (VF i)) →
      wpAny (MM w) A (execs body env) (LoopQ (fun s'' => ∃ g'' ks'', KF (i + 1) g'' ks'' ∧ SInv w s₀ g₀ env ((I, ob) :: ks'') gp' s'' g'' (VF (i + 1))) (fun s'' => wpAny (MM w) A (execs rest env) Q E s'') fun v s'' => Q (.ret v) s'') E' s')
    (hend : ∀ (s' : Shared) (g' : Gm) (E' : Value → Shared → Prop) (ks' : List (Addr × Obj)), KF xs.length g' ks' → SInv w s₀ g₀ env ks' gp s' g' (VF xs.length) → wpAny (MM w) A (execs orelse env) (Then w A env rest Q E) E' s')
    (hs : ∀ x, foldedSetIterable iter env x = pure x := by intro _; rfl) :
    wpAny (MM w) A (execs (.For (.Name x px) iter body orelse pos :: rest) env) Q E s := by
  refine wpAny_execs_cons (wpAny_For (hi.run S.inv fun xv s₁ g₁ G₁ R₁ I₁ => ?_) hs)
  have S₁ := S.step G₁
  refine hit s₁ g₁ xv E _ I₁.le R₁ fun I h₂ fp n PW St hk₂ W => ?_
  obtain ⟨oI, eI⟩ := W.live 0 h₂ W.start
  have S₂ : SInv w s₀ g₀ env ((I, oI) :: ks) gp { s₁ with heap := h₂ } g₁ V := S₁.hold (tk := s₁.toks) W.new hk₂ eI
  obtain ⟨nI0, gI1, apI, mI, hkI⟩ := fresh_apart S₁ W.new
  have hlen : n = xs.length := by have := W.len; rwa [List.length_map] at this
  -- from heap to heap what the iterator leans on stays
  have fr : ∀ (i : Nat) (h h' : Heap) (o : Obj), St i h → h.get? I = some o → h'.get? I = some o → Le g₁ h → Le g₁ h' → St i h' := fun i h h' o st e1 e2 l1 l2 => by
    refine W.walks.frame i h h' st fun b hb o' e => ?_
    by_cases q : b = I
    · subst q; rw [e1] at e; cases e; exact e2
    · obtain ⟨o2, e3⟩ := W.fp b hb q
      rw [l1 _ _ e3] at e; cases e; exact l2 _ _ e3
  refine codeAny_forLoop_any (fun m s' => ∃ i ob g' ks', m = n + 1 - i ∧ i ≤ n ∧ KF i g' ks' ∧ SInv w s₀ g₀ env ((I, ob) :: ks') g₁ s' g' (VF i) ∧ St i s'.heap) ?_ (n + 1) ?_
  · rintro m s' ⟨i, ob, g', ks', rfl, hin, hPi, S', st⟩
    have hkI : ∀ p ∈ ks', p.1 ≠ I := fun p hp => by
      have h1 : p.1 ∈ ks.map (·.1) := by rw [hKa _ _ _ hK0, ← hKa _ _ _ hPi]; exact List.mem_map_of_mem hp
      obtain ⟨q, hq, e⟩ := List.mem_map.mp h1
      rw [← e]; exact hkI q hq
    by_cases hlt : i < n
    · refine W.walks.item i s' _ _ hlt st fun v h₅ tk₅ hP st₅ hk₅ => ?_
      obtain ⟨q', hq', rq⟩ := W.item i v hlt hP
      rw [List.getElem?_map] at hq'
      obtain ⟨q, hq, rfl⟩ := Option.map_eq_some_iff.mp hq'
      obtain ⟨o₅, e₅⟩ := W.live _ _ st₅
      have S₅ : SInv w s₀ g₀ env ((I, o₅) :: ks') g₁ { s' with heap := h₅, toks := tk₅ } g' (VF i) := S'.turn hkI (fun b o hb e => hk₅ b o (by simpa using hb) e) e₅
      refine wpAny_of_eq (a := ()) rfl ?_
      refine wpAny_assign_Name (S₅.storeF hx (rq.mono S₅.pin) fun s₆ S₆ => ?_)
      have e₆ := (S₆.kept _ (.head _)).1
      have st₆ : St (i + 1) s₆.heap := fr _ _ _ _ st₅ e₅ e₆ (fun a o e => S₅.grow.le _ _ (S₅.pin _ _ e)) fun a o e => S₆.grow.le _ _ (S₆.pin _ _ e)
      refine wpAny_mono (hb i q I o₅ g₁ s₆ g' _ hq (fun a o e => S₁.pin a o e) ks' hPi hkI S₆) (fun f s₇ h₇ => ?_) fun _ _ e => e
      cases f with
      | next =>
        obtain ⟨g₇, ks₇, hP₇, S₇⟩ := h₇
        exact ⟨n + 1 - (i + 1), by omega, i + 1, o₅, g₇, ks₇, rfl, hlt, hP₇, S₇, fr _ _ _ _ st₆ e₆ (S₇.kept _ (.head _)).1 (fun a o e => S₆.grow.le _ _ (S₆.pin _ _ e)) fun a o e => S₇.grow.le _ _ (S₇.pin _ _ e)⟩
      | cont =>
        obtain ⟨g₇, ks₇, hP₇, S₇⟩ := h₇
        exact ⟨n + 1 - (i + 1), by omega, i + 1, o₅, g₇, ks₇, rfl, hlt, hP₇, S₇, fr _ _ _ _ st₆ e₆ (S₇.kept _ (.head _)).1 (fun a o e => S₆.grow.le _ _ (S₆.pin _ _ e)) fun a o e => S₇.grow.le _ _ (S₇.pin _ _ e)⟩
      | brk => exact h₇
      | ret v => exact h₇
    · have hin' : i = n := by omega
      subst hin'
      refine W.walks.done _ _ _ st fun h₅ tk₅ hk₅ => ?_
      have S₅ : SInv w s₀ g₀ env ks' g₁ { s' with heap := h₅, toks := tk₅ } g' (VF i) := by
        obtain ⟨h1, n0, ga, ap, hm⟩ := S'.kept _ (.head _)
        have k : ∀ b o, b ≠ I → s'.heap.get? b = some o → h₅.get? b = some o := fun b o hb e => hk₅ b o (by simpa using hb) e
        refine S'.pop.change n0 ga k ?_ (fun n c hc => ?_) hkI (fun p hp => ?_) S'.muts fun p hp => (S'.kept p (.tail _ hp)).2.2.2.2
        · obtain ⟨m, hn⟩ := S'.ns
          exact ⟨m, hn.at' fun o e => k _ _ (Ne.symm ap.1) e⟩
        · obtain ⟨⟨v, o, e, d⟩, _⟩ := S'.cells n c hc
          exact ⟨v, o, k _ _ (Ne.symm (ap.2 _ _ hc)) e, d⟩
        · obtain ⟨u, su, ru⟩ := S'.vars p hp
          refine ⟨u, ?_, ru.at fun b l e o ho => k b o ?_ ho⟩
          · rcases su with ⟨kl, m, hn, hmu⟩ | ⟨kc, c, hc, o, ho, hd⟩
            · exact .inl ⟨kl, m, hn.at' fun o e => k _ _ (Ne.symm ap.1) e, hmu⟩
            · exact .inr ⟨kc, c, hc, o, k _ _ (Ne.symm (ap.2 _ _ hc)) ho, hd⟩
          · have : p = (p.1, PV.mut b l) := by rw [← e]
            exact hm p.1 b l (this ▸ hp)
      have S₆ : SInv w s₀ g₀ env ks' gp { s' with heap := h₅, toks := tk₅ } g' (VF i) := S₅.repin fun a o e => S₅.pin _ _ (S₁.pin _ _ e)
      rw [hlen] at S₆ hPi
      exact wpAny_mono (hend _ g' _ ks' hPi S₆) (fun f s₆ h₆ => h₆) fun _ _ e => e
  · exact ⟨0, oI, g₁, ks, rfl, Nat.zero_le _, hKm _ _ _ _ G₁.sub hK0, (S₂.less h0).repin fun _ _ e => e, W.start⟩

theorem st_for {x : Str} {px pos : Pos} {iter : Expr} {body orelse : List Stmt} {pi : PV} {α : Type} {xs : List α} (cc : α → PV) (VF : Nat → Vars) (S : SInv w s₀ g₀ env ks gp s g V) (hi : Ex w A env V iter pi) (hit : ItrF w A pi (xs.map cc)) (hx : slotB env x = true)
    (h0 : ∀ q ∈ VF 0, q ∈ V)
    (hb : ∀ (i : Nat) (a : α) (I : Addr) (ob : Obj) (gp' : Gm) (s' : Shared) (g' : Gm) (E' : Value → Shared → Prop), xs[i]? = some a → (∀ a o, gp a = some o → gp' a = some o) → SInv w s₀ g₀ env ((I, ob) :: ks) gp' s' g' (upd x (cc a) (VF i)) →
      wpAny (MM w) A (execs body env) (LoopQ (fun s'' => ∃ g'', SInv w s₀ g₀ env ((I, ob) :: ks) gp' s'' g'' (VF (i + 1))) (fun s'' => wpAny (MM w) A (execs rest env) Q E s'') fun v s'' => Q (.ret v) s'') E' s')
    (hend : ∀ (s' : Shared) (g' : Gm) (E' : Value → Shared → Prop), SInv w s₀ g₀ env ks gp s' g' (VF xs.length) → wpAny (MM w) A (execs orelse env) (Then w A env rest Q E) E' s')
    (hs : ∀ x, foldedSetIterable iter env x = pure x := by intro _; rfl) :
    wpAny (MM w) A (execs (.For (.Name x px) iter body orelse pos :: rest) env) Q E s :=
  st_forP cc VF (fun _ => True) trivial S hi hit hx h0 (fun i a I ob gp' s' g' E' e1 e2 _ S' => wpAny_mono (hb i a I ob gp' s' g' E' e1 e2 S') (fun f s'' h => by cases f with
    | next => exact ⟨trivial, h⟩
    | cont => exact ⟨trivial, h⟩
    | brk => exact h
    | ret v => exact h) fun _ _ e => e) (fun s' g' E' _ S' => hend s' g' E' S') hs

theorem st_if {test : Expr} {body orelse : List Stmt} {pos : Pos} {c : Bool} (S : SInv w s₀ g₀ env ks gp s g V) (ht : Tr w A env V test c)
    (h1 : c = true → ∀ s' g', SInv w s₀ g₀ env ks gp s' g' V → wpAny (MM w) A (execs body env) (Then w A env rest Q E) E s')
    (h2 : c = false → ∀ s' g', SInv w s₀ g₀ env ks gp s' g' V → wpAny (MM w) A (execs orelse env) (Then w A env rest Q E) E s') :
    wpAny (MM w) A (execs (.If test body orelse pos :: rest) env) Q E s := by
  refine wpAny_execs_cons (wpAny_If (ht.run S.inv fun s₁ g₁ G₁ I₁ => ?_))
  cases c with
  | true => exact h1 rfl _ _ (S.step G₁)
  | false => exact h2 rfl _ _ (S.step G₁)

theorem codeAny_while {test : Expr} {body orelse : List Stmt} {R : Result → Shared → Prop} (I : Nat → Shared → Prop)
    (turn : ∀ n s, I n s → wpAny (MM w) A (isTrue test env (eval test env)) (fun b s₁ => if b = true then wpAny (MM w) A (execs body env) (fun f s₂ => match f with
        | .next | .cont => ∃ m, m < n ∧ I m s₂
        | .brk => R (.ok .next) s₂
        | .ret v => R (.ok (.ret v)) s₂) (notedBy (MM w) A env fun e s' => R (.error e) s') s₁
      else wpAny (MM w) A (execs orelse env) (fun f s₂ => R (.ok f) s₂) (notedBy (MM w) A env fun e s' => R (.error e) s') s₁) (notedBy (MM w) A env fun e s' => R (.error e) s') s)
    (n : Nat) (h : I n s) : codeAny (MM w) A (.whileLoop test body orelse env) R s := by
  refine codeAny_loop rfl I (fun n s hI => ?_) n h
  show wpAny _ A ((whileTurn test body orelse env).onRaise (fun x => do noteFrame x env; theTreesLotGoes x)) _ _ s
  refine wpAny_noted ?_
  simp only [whileTurn]
  refine wpAny_bind (wpAny_mono (turn n s hI) (fun b s₁ h₁ => ?_) fun _ _ e => e)
  cases b with
  | true =>
    simp only [if_true] at h₁ ⊢
    refine wpAny_bind (wpAny_mono h₁ (fun f s₂ h₂ => ?_) fun _ _ e => e)
    cases f with
    | next => exact wpAny_pure ⟨rfl, h₂⟩
    | cont => exact wpAny_pure ⟨rfl, h₂⟩
    | brk => exact wpAny_pure h₂
    | ret v => exact wpAny_pure h₂
  | false =>
    simp only [Bool.false_eq_true, if_false] at h₁ ⊢
    exact wpAny_bind (wpAny_mono h₁ (fun f s₂ h₂ => wpAny_pure h₂) fun _ _ e => e)

theorem st_while {test : Expr} {body : List Stmt} {pos : Pos} (VF : Nat → Vars) (N : Nat) (S : SInv w s₀ g₀ env ks gp s g V) (h0 : ∀ q ∈ VF 0, q ∈ V)
    (ht : ∀ i, i < N → Tr w A env (VF i) test true) (hf : Tr w A env (VF N) test false)
    (hb : ∀ (i : Nat) (s' : Shared) (g' : Gm) (E' : Value → Shared → Prop), i < N → SInv w s₀ g₀ env ks gp s' g' (VF i) → wpAny (MM w) A (execs body env) (LoopQ (fun s'' => ∃ g'', SInv w s₀ g₀ env ks gp s'' g'' (VF (i + 1))) (fun _ => False) fun _ _ => False) E' s')
    (hend : ∀ (s' : Shared) (g' : Gm), SInv w s₀ g₀ env ks gp s' g' (VF N) → wpAny (MM w) A (execs rest env) Q E s') :
    wpAny (MM w) A (execs (.While test body [] pos :: rest) env) Q E s := by
  refine wpAny_execs_cons (wpAny_While ?_)
  refine codeAny_while (fun m s' => ∃ i g', m = N - i ∧ i ≤ N ∧ SInv w s₀ g₀ env ks gp s' g' (VF i)) ?_ N ⟨0, g, rfl, Nat.zero_le _, S.less h0⟩
  rintro m s' ⟨i, g', rfl, hi, S'⟩
  by_cases hlt : i < N
  · refine (ht i hlt).run S'.inv fun s₁ g₁ G₁ I₁ => ?_
    simp only [if_true]
    refine wpAny_mono (hb i s₁ g₁ _ hlt (S'.step G₁)) (fun f s₂ h₂ => ?_) fun _ _ e => e
    cases f with
    | next => obtain ⟨g₂, S₂⟩ := h₂; exact ⟨N - (i + 1), by omega, i + 1, g₂, rfl, hlt, S₂⟩
    | cont => obtain ⟨g₂, S₂⟩ := h₂; exact ⟨N - (i + 1), by omega, i + 1, g₂, rfl, hlt, S₂⟩
    | brk => exact h₂.elim
    | ret v => exact h₂.elim
  · have : i = N := by omega
    subst this
    refine hf.run S'.inv fun s₁ g₁ G₁ I₁ => ?_
    simp only [Bool.false_eq_true, if_false]
    exact wpAny_execs_nil (hend s₁ g₁ (S'.step G₁))

/-! ### lists that are changed -/
def ExL (w : World) (A : Around) (env : Env) (V : Vars) (e : Expr) (l : List PV) : Prop :=
  ∀ (s : Shared) (g : Gm) (E : Value → Shared → Prop), Inv w s g env V →
    wpAny (MM w) A (eval e env) (fun v s' => ∃ a vs n, v = .ref a ∧ Keeps s s' ∧ s.heap.get? a = none ∧ s'.heap.get? a = some { cls := .type "list", data := .seq vs n } ∧ ∀ g, Reps g vs.toList l) E s

theorem st_assignL {x : Str} {px pos : Pos} {value : Expr} {l : List PV} (S : SInv w s₀ g₀ env ks gp s g V) (h : ExL w A env V value l) (hx : slotB env x = true)
    (k : ∀ a s' g', SInv w s₀ g₀ env ks gp s' g' (upd x (.mut a l) V) → wpAny (MM w) A (execs rest env) Q E s') (hsw : swapsWith value (some (.Name x px)) pos.line env = pure false := by rfl) :
    wpAny (MM w) A (execs (.Assign [.Name x px] value pos :: rest) env) Q E s := by
  refine wpAny_execs_cons (wpAny_Assign_Name (wpAny_mono (h s g E S.inv) (fun v s₁ h₁ => ?_) fun _ _ e => e) hsw)
  obtain ⟨a, vs, n, rfl, ⟨h', tk, rfl, kp⟩, na, oa, rs⟩ := h₁
  have S₁ : SInv w s₀ g₀ env ks gp { s with heap := h', toks := tk } g V := S.step (Grow.keep S.grow.le kp)
  obtain ⟨n0, ga, ap, hm, hk⟩ := fresh_apart S na
  refine S₁.store hx (p := .mut a l) ⟨rfl, vs, n, oa, rs g⟩ (fun b m e => ?_) fun s'' S'' => k a s'' g S''
  cases e
  exact ⟨n0, ga, ap, fun p hp => Ne.symm (hk p hp)⟩

/-- the list is read no more as one that changes -/
theorem SInv.freeze {x : Str} {a : Addr} {l : List PV} (S : SInv w s₀ g₀ env ks gp s g V) (hx : (x, .mut a l) ∈ V) (hV : ∀ y b m, (y, .mut b m) ∈ V → y = x ∨ b ≠ a) : ∃ g', SInv w s₀ g₀ env ks gp s g' (upd x (.list l) V) := by
  obtain ⟨n0, ga, ap⟩ := S.muts x a l hx
  obtain ⟨v, sv, e, vs, n, oa, rs⟩ := S.vars _ hx
  have sub : ∀ b o, g b = some o → gadd g a { cls := .type "list", data := .seq vs n } b = some o := fun b o eo => by
    rw [gadd_ne]; exact eo
    rintro rfl; rw [ga] at eo; cases eo
  refine ⟨gadd g a { cls := .type "list", data := .seq vs n }, S.base₀, ⟨S.grow.keeps, fun b o e => sub b o (S.grow.sub b o e), fun b o e => ?_, fun b o e1 e2 => ?_⟩, S.kind, S.globals, S.builtins, fun q hq => ?_, S.ns, S.nL, ?_, fun n c hc => ?_, S.apart, fun b o e => sub b o (S.pin b o e), fun y b m hm => ?_, fun p hp => ?_⟩
  · by_cases q : b = a
    · subst q; rw [gadd_self] at e; cases e; exact oa
    · rw [gadd_ne q] at e; exact S.grow.le b o e
  · by_cases q : b = a
    · subst q; exact n0
    · rw [gadd_ne q] at e1; exact S.grow.fresh b o e1 e2
  · rcases of_mem_upd hq with rfl | ⟨hq, hne⟩
    · have e' : v = .ref a := e
      subst e'
      exact ⟨_, sv, Rep.list gadd_self rfl rfl (rs.mono sub)⟩
    · obtain ⟨u, su, ru⟩ := S.vars q hq
      exact ⟨u, su, ru.mono (fun _ _ e => e) sub⟩
  · rw [gadd_ne (Ne.symm ap.1)]; exact S.gL
  · obtain ⟨c1, c2, c3, c4⟩ := S.cells n c hc
    exact ⟨c1, c2, by rw [gadd_ne (Ne.symm (ap.2 _ _ hc))]; exact c3, c4⟩
  · rcases of_mem_upd hm with e | ⟨hm', hne⟩
    · cases e
    · obtain ⟨m1, m2, m3⟩ := S.muts y b m hm'
      refine ⟨m1, ?_, m3⟩
      rw [gadd_ne ((hV y b m hm').resolve_left hne)]; exact m2
  · obtain ⟨k1, k2, k3, k4, k5⟩ := S.kept p hp
    refine ⟨k1, k2, by rw [gadd_ne (Ne.symm (k5 x a l hx))]; exact k3, k4, fun y b m hm => ?_⟩
    rcases of_mem_upd hm with e | ⟨hm', _⟩
    · cases e
    · exact k5 y b m hm'

/-- the changed list's object turns -/
theorem SInv.mutate {x : Str} {a : Addr} {l l' : List PV} {h' : Heap} {tk : Nat} {vs : Array Value} {n : Nat} (S : SInv w s₀ g₀ env ks gp s g V) (hx : (x, .mut a l) ∈ V) (hV : ∀ y b m, (y, .mut b m) ∈ V → y = x ∨ b ≠ a)
    (k : ∀ b o, b ≠ a → s.heap.get? b = some o → h'.get? b = some o) (ho : h'.get? a = some { cls := .type "list", data := .seq vs n }) (rs : Reps g vs.toList l') : SInv w s₀ g₀ env ks gp { s with heap := h', toks := tk } g (upd x (.mut a l') V) := by
  obtain ⟨n0, ga, ap⟩ := S.muts x a l hx
  obtain ⟨v, sv, e, _⟩ := S.vars _ hx
  have see : ∀ {y u}, Sees s.heap env y u → Sees h' env y u := fun su => by
    rcases su with ⟨kl, m, hn, hmu⟩ | ⟨kc, c, hc, o, ho, hd⟩
    · exact .inl ⟨kl, m, hn.at' fun o e => k _ _ (Ne.symm ap.1) e, hmu⟩
    · exact .inr ⟨kc, c, hc, o, k _ _ (Ne.symm (ap.2 _ _ hc)) ho, hd⟩
  refine S.change n0 ga k ?_ (fun n c hc => ?_) (fun p hp => Ne.symm ((S.kept p hp).2.2.2.2 x a l hx)) (fun p hp => ?_) (fun y b m hm => ?_) fun p hp y b m hm => ?_
  · obtain ⟨m, hn⟩ := S.ns
    exact ⟨m, hn.at' fun o e => k _ _ (Ne.symm ap.1) e⟩
  · obtain ⟨⟨v, o, e, d⟩, _⟩ := S.cells n c hc
    exact ⟨v, o, k _ _ (Ne.symm (ap.2 _ _ hc)) e, d⟩
  · rcases of_mem_upd hp with rfl | ⟨hp, hne⟩
    · exact ⟨v, see sv, e, vs, n, ho, rs⟩
    · obtain ⟨u, su, ru⟩ := S.vars p hp
      refine ⟨u, see su, ru.at fun b m e o ho => k b o ?_ ho⟩
      have : p = (p.1, PV.mut b m) := by rw [← e]
      exact (hV p.1 b m (this ▸ hp)).resolve_left hne
  · rcases of_mem_upd hm with e | ⟨hm', _⟩
    · cases e; exact ⟨n0, ga, ap⟩
    · exact S.muts y b m hm'
  · rcases of_mem_upd hm with e | ⟨hm', _⟩
    · cases e; exact (S.kept p hp).2.2.2.2 x a l hx
    · exact (S.kept p hp).2.2.2.2 y b m hm'
end
end Mine
end
noncomputable section
open PySem PySem.W PySem.Calls PyProof.Rows
namespace Mine

section
variable {w : World} {A : Around} {env : Env} {V : Vars} {s₀ s : Shared} {g₀ g : Gm} {ks : List (Addr × Obj)} {gp : Gm} {E : Value → Shared → Prop} {Q : Flow → Shared → Prop} {rest : List Stmt}

def Sole (x : Str) (a : Addr) (V : Vars) : Prop := ∀ y b m, (y, PV.mut b m) ∈ V → y = x ∨ b ≠ a

theorem name_run {x : Str} {pos : Pos} {p : PV} {Q : Value → Shared → Prop} (S : SInv w s₀ g₀ env ks gp s g V) (hx : (x, p) ∈ V) (hd : (x == ("__debug__" : Str)) = false) (k : ∀ v, RepT s.heap g v p → Q v s) : wpAny (MM w) A (eval (.Name x pos) env) Q E s := by
  obtain ⟨v, a, b⟩ := S.vars _ hx
  exact wpAny_Name (a.load S.kind (k v b)) hd

theorem st_append {x : Str} {nx apos pos epos : Pos} {elt : Expr} {a : Addr} {l : List PV} {p : PV} (S : SInv w s₀ g₀ env ks gp s g V) (hx : (x, .mut a l) ∈ V) (hV : Sole x a V) (he : Ex w A env V elt p) (hp : p.fz = true) (hl : l.length ≤ 100000)
    (k : ∀ s' g', SInv w s₀ g₀ env ks gp s' g' (upd x (.mut a (l ++ [p])) V) → wpAny (MM w) A (execs rest env) Q E s')
    (hd : (x == ("__debug__" : Str)) = false := by decide)
    (h1 : attributeBase (.Name x nx) (Str.ofString "append") env (eval (.Name x nx) env) = eval (.Name x nx) env := by rfl)
    (h2 : ((((backTo pos (starEach [elt] env)).all fun x => !x.fst) && (backToKw pos (keywordEach [] env)).all fun x => x.fst.isSome) && decide (([elt].length + ([] : List Keyword).length + if ([] : List Keyword).isEmpty = true then 0 else 1) < 30)) = true := by rfl)
    (h3 : (apos.endLine == pos.line) = true := by rfl) (h4 : backTo pos (starEach [elt] env) = [(false, eval elt env)] := by rfl)
    (h5 : interactive env = false := by rfl) :
    wpAny (MM w) A (execs (.Expr (.Call (.Attribute (.Name x nx) (Str.ofString "append") apos) [elt] [] pos) epos :: rest) env) Q E s := by
  refine wpAny_execs_cons (wpAny_Expr_any (wpAny_Call_append h1 h2 h3 h4 (name_run S hx hd fun v R => ?_)) h5 rfl)
  obtain ⟨rfl, vs, n, oa, rs⟩ := R
  refine ⟨a, vs, rfl, ⟨_, n, oa, rfl, rfl, rfl⟩, he.run S.inv fun y s₁ g₁ G₁ R₁ I₁ => ?_⟩
  have S₁ := S.step G₁
  have oa₁ := G₁.get _ _ oa
  have e := rs.length
  rw [Array.length_toList] at e
  refine wpAny_list_append_plain (items := vs) (hsz := by rw [sizeLine_eq]; omega) ⟨n, oa₁⟩ fun h' pl sb => ?_
  obtain ⟨n', o'⟩ := pl
  refine k _ g₁ (S₁.mutate (tk := s₁.toks) hx hV (fun b o hb e => sb.extBut b o hb e) o' ?_)
  simpa using (rs.mono G₁.sub).snoc (R₁.fz hp)

theorem set_run {a : Addr} {l : List PV} {i : Int} {t : Tok} {v : Value} {p : PV} {x : Str} {Q : Unit → Shared → Prop} (S : SInv w s₀ g₀ env ks gp s g V) (hx : (x, .mut a l) ∈ V) (hV : Sole x a V) (h0 : 0 ≤ i) (h1 : i < l.length) (h2 : l.length ≤ 100000) (R : Rep g v p)
    (k : ∀ s', SInv w s₀ g₀ env ks gp s' g (upd x (.mut a (l.set i.toNat p)) V) → Q () s') : wpAny (MM w) A (setItem (.ref a) (.int i t) v) Q E s := by
  obtain ⟨u, su, e, vs, n, oa, rs⟩ := S.vars _ hx
  have e' := rs.length
  rw [Array.length_toList] at e'
  refine ki_setAt (items := vs) (n := n) oa h0 (by omega) (by omega) (k _ ?_)
  have q := PySem.IsL.update oa (·.setIfInBounds i.toNat v)
  refine S.mutate (tk := s.toks) hx hV (fun b o hb e => (Heap.get?_update_ne _ _ _ _ hb).trans e) q ?_
  simpa using rs.set i.toNat R

theorem st_set {x : Str} {nx pos' pos : Pos} {ix value : Expr} {a : Addr} {l : List PV} {i : Int} {p : PV} (S : SInv w s₀ g₀ env ks gp s g V) (hx : (x, .mut a l) ∈ V) (hV : Sole x a V) (hv : Ex w A env V value p) (hp : p.fz = true) (hi : Ex w A env V ix (.int i))
    (h0 : 0 ≤ i) (h1 : i < l.length) (h2 : l.length ≤ 100000)
    (k : ∀ s' g', SInv w s₀ g₀ env ks gp s' g' (upd x (.mut a (l.set i.toNat p)) V) → wpAny (MM w) A (execs rest env) Q E s')
    (hd : (x == ("__debug__" : Str)) = false := by decide) (hsw : swapsWith value (some (.Subscript (.Name x nx) ix pos')) pos.line env = pure false := by rfl) :
    wpAny (MM w) A (execs (.Assign [.Subscript (.Name x nx) ix pos'] value pos :: rest) env) Q E s := by
  refine wpAny_execs_cons (wpAny_Assign_Subscript (hv.run S.inv fun v s₁ g₁ G₁ R₁ I₁ => ?_) hsw)
  have S₁ := S.step G₁
  refine name_run S₁ hx hd fun u R => ?_
  obtain ⟨rfl, _⟩ := R
  refine hi.run S₁.inv fun iv s₂ g₂ G₂ R₂ I₂ => ?_
  cases (show Rep g₂ iv (.int i) from R₂)
  exact set_run (S₁.step G₂) hx hV h0 h1 h2 ((R₁.fz hp).mono G₂.sub) fun s' S' => k s' g₂ S'

def Ip (w : World) (A : Around) (op : Operator) (p q r : PV) : Prop :=
  ∀ (s : Shared) (g : Gm) (v u : Value) (E : Value → Shared → Prop), Le g s.heap → Rep g v p → Rep g u q →
    wpAny (MM w) A (inplaceOp op v u) (fun x s' => ∃ g', Grow s g s' g' ∧ Rep g' x r) E s
theorem ip_add {i j : Int} : Ip w A .Add (.int i) (.int j) (.int (i + j)) := by
  intro s g v u E le R₁ R₂; cases R₁; cases R₂
  exact PyProof.Rows.iadd_int ⟨g, Grow.toks le _, Rep.int _ _⟩
theorem ip_sub {i j : Int} : Ip w A .Sub (.int i) (.int j) (.int (i - j)) := by
  intro s g v u E le R₁ R₂; cases R₁; cases R₂
  exact PyProof.Rows.isub_int ⟨g, Grow.toks le _, Rep.int _ _⟩
theorem ip_xor {i j : Int} : Ip w A .BitXor (.int i) (.int j) (.int (Builtin.bitXor i j)) := by
  intro s g v u E le R₁ R₂; cases R₁; cases R₂
  exact PyProof.Rows.ixor_int ⟨g, Grow.toks le _, Rep.int _ _⟩

theorem st_aug {x : Str} {px pos : Pos} {op : Operator} {value : Expr} {p q r : PV} (S : SInv w s₀ g₀ env ks gp s g V) (hx : (x, p) ∈ V) (hpz : p.fz = true) (hv : Ex w A env V value q) (hqz : q.fz = true) (ho : Ip w A op p q r) (hsl : slotB env x = true)
    (k : ∀ s' g', SInv w s₀ g₀ env ks gp s' g' (upd x r V) → wpAny (MM w) A (execs rest env) Q E s') :
    wpAny (MM w) A (execs (.AugAssign (.Name x px) op value pos :: rest) env) Q E s := by
  obtain ⟨v, a, b⟩ := S.vars _ hx
  refine wpAny_execs_cons (wpAny_AugAssign_Name (a.load S.kind (hv.run S.inv fun u s₁ g₁ G₁ R₁ I₁ => ?_)))
  refine wpAny_mono (ho s₁ g₁ v u E I₁.le ((b.mono G₁.get G₁.sub).fz hpz) (R₁.fz hqz)) (fun z s₂ ⟨g₂, G₂, R₂⟩ => ?_) fun _ _ e => e
  exact ((S.step G₁).step G₂).storeF hsl R₂ fun s' S' => k s' g₂ S'

theorem st_augset {x : Str} {nx tpos pos : Pos} {ix value : Expr} {op : Operator} {a : Addr} {l : List PV} {i : Int} {p q r : PV} (S : SInv w s₀ g₀ env ks gp s g V) (hx : (x, .mut a l) ∈ V) (hV : Sole x a V) (hi : Ex w A env V ix (.int i))
    (h0 : 0 ≤ i) (h2 : l.length ≤ 100000) (hp : l[i.toNat]? = some p) (hv : Ex w A env V value q) (hqz : q.fz = true) (ho : Ip w A op p q r)
    (k : ∀ s' g', SInv w s₀ g₀ env ks gp s' g' (upd x (.mut a (l.set i.toNat r)) V) → wpAny (MM w) A (execs rest env) Q E s')
    (hd : (x == ("__debug__" : Str)) = false := by decide) (hau : ∀ (ov iv new : Value), augStore ix ov iv new = (do holding [new, ov, iv] (setItem ov iv new); release [new, ov, iv] []; pure Flow.next) := by intros; rfl) :
    wpAny (MM w) A (execs (.AugAssign (.Subscript (.Name x nx) ix tpos) op value pos :: rest) env) Q E s := by
  have h1 : i.toNat < l.length := (List.getElem?_eq_some_iff.mp hp).1
  refine wpAny_execs_cons (wpAny_AugAssign_SubscriptAny (name_run S hx hd fun u R => ?_) hau)
  obtain ⟨rfl, _⟩ := R
  refine hi.run S.inv fun iv s₁ g₁ G₁ R₁ I₁ => ?_
  cases (show Rep g₁ iv (.int i) from R₁)
  have S₁ := S.step G₁
  obtain ⟨u, su, e, vs, n, oa, rs⟩ := S₁.vars _ hx
  obtain ⟨y, hy, ry⟩ := rs.get hp
  refine wpAny_getItem_list (items := vs) ⟨_, oa, rfl, n, rfl⟩ h0 (by omega) (by simpa using hy) ?_
  refine hv.run I₁ fun z s₂ g₂ G₂ R₂ I₂ => ?_
  refine wpAny_mono (ho s₂ g₂ y z E I₂.le (ry.mono G₂.sub) (R₂.fz hqz)) (fun x' s₃ ⟨g₃, G₃, R₃⟩ => ?_) fun _ _ e => e
  exact set_run ((S₁.step G₂).step G₃) hx hV h0 (by omega) h2 R₃ fun s' S' => k s' g₃ S'

/-- y = [..]: the comprehension stores by itself -/
theorem st_comp {elt iter : Expr} {x y : Str} {px py : Pos} {ifs : List Expr} {scope : Scope} {pos spos : Pos} {pi : PV} {α : Type} {xs : List α} (cc : α → PV) (p : α → Bool) (f : α → PV) (S : SInv w s₀ g₀ env ks gp s g V)
    (hi : Ex w A env V iter pi) (hit : Itr w A pi (xs.map cc))
    (ht : ∀ C q, q ∈ xs → Tf w A (cEnv scope env C) ((x, cc q) :: capV scope.names env V) ifs (p q))
    (he : ∀ C q, q ∈ xs → p q = true → Ex w A (cEnv scope env C) ((x, cc q) :: capV scope.names env V) elt (f q))
    (hz : ∀ q ∈ xs, p q = true → (f q).fz = true) (hn : xs.length ≤ 100000)
    (hx : scope.names.lookup x = some .local ∨ scope.names.lookup x = some .cell) (hy : slotB env y = true)
    (k : ∀ s' g', SInv w s₀ g₀ env ks gp s' g' (upd y (.list ((xs.filter p).map f)) V) → wpAny (MM w) A (execs rest env) Q E s')
    (hsw : swapsWith (.ListComp elt [⟨.Name x px, iter, ifs, 0⟩] scope pos) (some (.Name y py)) spos.line env = pure true := by rfl)
    (hfree : freeOk scope.names env = true := by rfl) (hkind : scope.kind = .function := by rfl) (hnames : ∀ y ∈ scope.names, y.2 = .local → scope.names.lookup y.1 = some .local := by decide)
    (hs : ∀ x, foldedSetIterable iter env x = pure x := by intro _; rfl) :
    wpAny (MM w) A (execs (.Assign [.Name y py] (.ListComp elt [⟨.Name x px, iter, ifs, 0⟩] scope pos) spos :: rest) env) Q E s := by
  refine wpAny_execs_cons ?_
  rw [exec_Assign_Name_used _ _ _ _ hsw]
  refine wpAny_bind (wpAny_standAt (wpAny_bind ?_))
  show wpAny _ A (do let _ ← comprehension (.ListComp elt [⟨.Name x px, iter, ifs, 0⟩] scope pos) scope env _ (newList []) false (eval iter env) (some (assign (.Name y py) env))) _ _ s
  refine wpAny_bind (comp_core (use := some (assign (.Name y py) env)) cc p f hi hit S.inv hs hfree hkind hnames hx ht he hz hn ?_)
  intro D C s₁ g₁ G₁ R₁ nC gC hns nD
  obtain ⟨m, hm⟩ := hns
  obtain ⟨oC, eC⟩ := Ns.some hm
  have S₁ := S.step G₁
  have fa := fresh_apart S nC
  have S₂ : SInv w s₀ g₀ env ((C, oC) :: ks) gp s₁ g₁ V := by
    refine { S₁ with kept := fun p hp => ?_ }
    cases hp with
    | head => exact ⟨eC, fa.1, gC, fa.2.2.1, fa.2.2.2.1⟩
    | tail _ hp => exact S₁.kept p hp
  show wpAny _ A (assign (.Name y py) env (.ref D)) _ _ _
  refine wpAny_assign_Name (S₂.storeF hy R₁ fun s₃ S₃ => ?_)
  have e₃ := (S₃.kept _ (.head _)).1
  refine ⟨m, ?_, fun h' sb => ?_⟩
  · obtain ⟨o, es, ep, e1, r⟩ := hm
    rw [eC] at e1; cases e1
    exact ⟨oC, es, ep, e₃, r⟩
  · refine wpAny_pure (wpAny_pure (k _ g₁ ?_))
    -- the block's own names go
    obtain ⟨h1, n0, ga, ap, hmm⟩ := S₃.kept _ (.head _)
    have kk : ∀ b o, b ≠ C → s₃.heap.get? b = some o → h'.get? b = some o := fun b o hb e => sb.extBut b o hb e
    refine S₃.pop.change (tk := s₃.toks) n0 ga kk ?_ (fun n c hc => ?_) fa.2.2.2.2 (fun p hp => ?_) S₃.muts fun p hp => (S₃.kept p (.tail _ hp)).2.2.2.2
    · obtain ⟨m, hn⟩ := S₃.ns
      exact ⟨m, hn.at' fun o e => kk _ _ (Ne.symm ap.1) e⟩
    · obtain ⟨⟨v, o, e, d⟩, _⟩ := S₃.cells n c hc
      exact ⟨v, o, kk _ _ (Ne.symm (ap.2 _ _ hc)) e, d⟩
    · obtain ⟨u, su, ru⟩ := S₃.vars p hp
      refine ⟨u, ?_, ru.at fun b l e o ho => kk b o ?_ ho⟩
      · rcases su with ⟨kl, m, hn, hmu⟩ | ⟨kc, c, hc, o, ho, hd⟩
        · exact .inl ⟨kl, m, hn.at' fun o e => kk _ _ (Ne.symm ap.1) e, hmu⟩
        · exact .inr ⟨kc, c, hc, o, kk _ _ (Ne.symm (ap.2 _ _ hc)) ho, hd⟩
      · have : p = (p.1, PV.mut b l) := by rw [← e]
        exact hmm p.1 b l (this ▸ hp)

theorem sole_upd {x y : Str} {a : Addr} {p : PV} (h : Sole x a V) (hp : ∀ b m, p = .mut b m → y = x ∨ b ≠ a) : Sole x a (upd y p V) := fun z b m hm => by
  rcases of_mem_upd hm with e | ⟨hm, _⟩
  · cases e; exact hp _ _ rfl
  · exact h z b m hm
theorem sole_nil {x : Str} {a : Addr} : Sole x a [] := fun _ _ _ h => nomatch h
theorem sole_cons {x y : Str} {a : Addr} {p : PV} (h : Sole x a V) (hp : ∀ b m, p = .mut b m → y = x ∨ b ≠ a) : Sole x a ((y, p) :: V) := fun z b m hm => by
  cases hm with
  | head => exact hp _ _ rfl
  | tail _ hm => exact h z b m hm

/-! ### new lists that will be changed -/
theorem exL_list {es : List Expr} {pos : Pos} {ps : List PV} (h : Exs w A env V pos es ps) (hs : ps.length ≤ 1000) (hf : ∀ g g' vs, Reps g vs ps → Reps g' vs ps) : ExL w A env V (.List es pos) ps := by
  intro s g E I
  refine wpAny_List_spliced (h.run I fun vs s₁ g₁ G₁ R₁ I₁ => ⟨?_, s₁.heap.objs.size, vs.toArray, 0, rfl, ?_, ?_, Heap.get?_push_size _ rfl, fun g' => by simpa using hf _ _ _ R₁⟩)
  · rw [R₁.length]; exact Nat.le_trans hs (by decide)
  · exact keeps_trans G₁.keeps ⟨_, _, rfl, fun _ _ e => Heap.get?_push_of_some _ e⟩
  · cases e : s.heap.get? s₁.heap.objs.size with
    | none => rfl
    | some o => exact absurd (Heap.lt_size (G₁.get _ _ e)) (Nat.lt_irrefl _)
theorem flat_ints {l : List Int} (g g' : Gm) (vs : List Value) (h : Reps g vs (PI l)) : Reps g' vs (PI l) := Reps.ofInts h.ints
theorem flat_nil (g g' : Gm) (vs : List Value) (h : Reps g vs []) : Reps g' vs [] := by cases h; exact .nil
end
end Mine
end
noncomputable section
open PySem PySem.W PySem.Calls PyProof.Rows PySem.Spec PySem.SeqAt PyProof.V
namespace Mine
section
variable {w : World} {A : Around} {env : Env} {V : Vars}

/-! ### methods of texts -/
theorem ex_methS0 {o : Expr} {name : Str} {apos pos : Pos} {x : Str} {id : String} {p : PV} (ho : Ex w A env V o (.str x)) (F : Fn w A (.builtin id) [.str x] p) (hs : Slot "str" name id) (ht : typeOf (.builtin id) = pure (.type "method_descriptor"))
    (h1 : attributeBase o name env (eval o env) = eval o env := by rfl) (h3 : (apos.endLine == pos.line) = true := by rfl) : Ex w A env V (.Call (.Attribute o name apos) [] [] pos) p := by
  intro s g E I
  refine wpAny_Call_method0_late h1 h3 (ho.run I fun v s₁ g₁ G₁ R₁ I₁ => ?_)
  cases (show Rep g₁ v (.str x) from R₁)
  refine ⟨"str", id, PySem.F.plainAttrs_str, hs, ht, rfl, (fun a e => nomatch e), callWith_method0 (env := env) ?_⟩
  exact F.run I₁.le I₁.base (.cons (.str _ _) .nil) fun u s₃ g₃ G₃ R₃ => ⟨g₃, G₁.trans G₃, R₃.T⟩
theorem ex_methS1 {o e : Expr} {name : Str} {apos pos : Pos} {x : Str} {id : String} {p q : PV} (ho : Ex w A env V o (.str x)) (he : Exs w A env V pos [e] [q]) (F : Fn w A (.builtin id) [.str x, q] p) (hs : Slot "str" name id) (ht : typeOf (.builtin id) = pure (.type "method_descriptor"))
    (h1 : attributeBase o name env (eval o env) = eval o env := by rfl) (h3 : (apos.endLine == pos.line) = true := by rfl) (h4 : backTo pos (starEach [e] env) = [(false, eval e env)] := by rfl) : Ex w A env V (.Call (.Attribute o name apos) [e] [] pos) p := by
  intro s g E I
  refine wpAny_Call_method1_late h1 h3 h4 (ho.run I fun v s₁ g₁ G₁ R₁ I₁ => ?_)
  cases (show Rep g₁ v (.str x) from R₁)
  refine ⟨"str", id, PySem.F.plainAttrs_str, hs, ht, rfl, (fun a e => nomatch e), callWith_builtin (by rfl) (evalArgs_plain ?_)⟩
  rw [← h4]
  refine he.run I₁ fun vs s₂ g₂ G₂ R₂ I₂ => ?_
  exact F.run I₂.le I₂.base (.cons (.str _ _) R₂) fun u s₃ g₃ G₃ R₃ => ⟨g₃, (G₁.trans G₂).trans G₃, R₃.T⟩

theorem fn_lower {x : Str} (hx : x.length ≤ 100000) : Fn w A (.builtin "str.lower") [.str x] (.str (Txt.lower x)) := by
  intro s g vs E le B R
  cases R with
  | cons h r => cases r; cases h; exact SCL.lower (by omega) fun _ => ⟨g, Grow.toks le _, .str _ _⟩
theorem fn_join {x : Str} {ys : List Str} (hx : x.length ≤ 16) (hy : (ys.map (·.length)).sum + ys.length ≤ 1000000) : Fn w A (.builtin "str.join") [.str x, .list (PS ys)] (.str (Txt.join x ys)) := by
  intro s g vs E le B R
  cases R with
  | cons h r =>
    cases r with
    | cons h2 r =>
      cases r; cases h
      obtain ⟨a, ws, rfl, hl, rs⟩ := (h2.T (h := s.heap)).asList le rfl
      exact join_listW hl rs.strs hx (by omega) fun t' k => ⟨g, Grow.toks le _, .str _ _⟩

theorem strsAre_values : ∀ (l : List (Str × Tok)), StrsAre (strValues l) (l.map (·.1))
  | [] => .nil
  | (x, t) :: r => .cons x t (strsAre_values r)

theorem ex_lower {o : Expr} {apos pos : Pos} {x : Str} (ho : Ex w A env V o (.str x)) (hx : x.length ≤ 100000)
    (h1 : attributeBase o (Str.ofString "lower") env (eval o env) = eval o env := by rfl) (h3 : (apos.endLine == pos.line) = true := by rfl) : Ex w A env V (.Call (.Attribute o (Str.ofString "lower") apos) [] [] pos) (.str (Txt.lower x)) :=
  ex_methS0 ho (fn_lower hx) PySem.F.slot_str_lower PySem.F.type_str_lower h1 h3
theorem ex_join {o e : Expr} {apos pos : Pos} {x : Str} {ys : List Str} (ho : Ex w A env V o (.str x)) (he : Exs w A env V pos [e] [.list (PS ys)]) (hx : x.length ≤ 16) (hy : (ys.map (·.length)).sum + ys.length ≤ 1000000)
    (h1 : attributeBase o (Str.ofString "join") env (eval o env) = eval o env := by rfl) (h3 : (apos.endLine == pos.line) = true := by rfl) (h4 : backTo pos (starEach [e] env) = [(false, eval e env)] := by rfl) :
    Ex w A env V (.Call (.Attribute o (Str.ofString "join") apos) [e] [] pos) (.str (Txt.join x ys)) :=
  ex_methS1 ho he (fn_join hx hy) PySem.F.slot_str_join PySem.F.type_str_join h1 h3 h4

/-! ### and, or -/
def At (w : World) (A : Around) (env : Env) (V : Vars) (es : List Expr) (b : Bool) : Prop :=
  ∀ (s : Shared) (g : Gm) (E : Value → Shared → Prop), Inv w s g env V → wpAny (MM w) A (allTrue .And es env) (fun c s' => c = b ∧ ∃ g', Grow s g s' g') E s
theorem at_nil : At w A env V [] true := fun _ g _ I => wpAny_allTrue_And_nil ⟨rfl, g, Grow.refl I.le⟩
theorem at_cons {e : Expr} {es : List Expr} {c d : Bool} (h : Tr w A env V e c) (r : c = true → At w A env V es d) : At w A env V (e :: es) (c && d) := by
  intro s g E I
  refine wpAny_allTrue_And_cons (h.run I fun s₁ g₁ G₁ I₁ => ?_)
  cases c with
  | true => exact wpAny_mono (r rfl s₁ g₁ E I₁) (fun c s' ⟨e, g', G⟩ => ⟨by simp [e], g', G₁.trans G⟩) fun _ _ x => x
  | false => exact ⟨rfl, g₁, G₁⟩
theorem tr_and {es : List Expr} {pos : Pos} {b : Bool} (h : At w A env V es b) : Tr w A env V (.BoolOp .And es pos) b := fun s g E I => wpAny_isTrue_BoolOp (h s g E I)

def Ot (w : World) (A : Around) (env : Env) (V : Vars) (es : List Expr) (b : Bool) : Prop :=
  ∀ (s : Shared) (g : Gm) (E : Value → Shared → Prop), Inv w s g env V → wpAny (MM w) A (allTrue .Or es env) (fun c s' => c = b ∧ ∃ g', Grow s g s' g') E s
theorem ot_nil : Ot w A env V [] false := fun _ g _ I => wpAny_allTrue_Or_nil ⟨rfl, g, Grow.refl I.le⟩
theorem ot_cons {e : Expr} {es : List Expr} {c d : Bool} (h : Tr w A env V e c) (r : c = false → Ot w A env V es d) : Ot w A env V (e :: es) (c || d) := by
  intro s g E I
  refine wpAny_allTrue_Or_cons (h.run I fun s₁ g₁ G₁ I₁ => ?_)
  cases c with
  | false => exact wpAny_mono (r rfl s₁ g₁ E I₁) (fun c s' ⟨e, g', G⟩ => ⟨by simp [e], g', G₁.trans G⟩) fun _ _ x => x
  | true => exact ⟨rfl, g₁, G₁⟩
theorem tr_or {es : List Expr} {pos : Pos} {b : Bool} (h : Ot w A env V es b) : Tr w A env V (.BoolOp .Or es pos) b := fun s g E I => wpAny_isTrue_BoolOp (h s g E I)

/-- x or y, as a value -/
theorem ex_or {x y : Expr} {pos : Pos} {p q : PV} {c : Bool} (hx : Ex w A env V x p) (t : Ty w A p c) (h1 : c = true → p = q) (h2 : c = false → Ex w A env V y q) : Ex w A env V (.BoolOp .Or [x, y] pos) q := by
  intro s g E I
  refine wpAny_Or2 (hx.run I fun v s₁ g₁ G₁ R₁ I₁ => wpAny_mono (t s₁ g₁ v E I₁.le R₁) (fun b s₂ ⟨e, g₂, G₂⟩ => ?_) fun _ _ x => x)
  subst e
  cases b with
  | true => simp only [if_true]; exact ⟨g₂, G₁.trans G₂, h1 rfl ▸ R₁.mono G₂.get G₂.sub⟩
  | false => simp only [Bool.false_eq_true, if_false]; exact (h2 rfl).run (I₁.grow G₂) fun u s₃ g₃ G₃ R₃ I₃ => ⟨g₃, (G₁.trans G₂).trans G₃, R₃⟩

theorem all_range_eq : ∀ (l m : List Str), l.length = m.length → (List.range l.length).all (fun i => l.getD i Str.empty == m.getD i Str.empty) = decide (l = m)
  | [], [], _ => rfl
  | x :: l, y :: m, h => by
    have ih := all_range_eq l m (by simpa using h)
    rw [List.length_cons, List.range_succ_eq_map, List.all_cons, List.all_map]
    have : ((fun i => (x :: l).getD i Str.empty == (y :: m).getD i Str.empty) ∘ Nat.succ) = fun i => l.getD i Str.empty == m.getD i Str.empty := by funext i; simp
    rw [this, ih]
    by_cases q : x = y <;> simp [q]
theorem strs_at {vs : List Value} {l : List Str} (h : StrsAre vs l) : ∀ (j : Nat) (hj : j < vs.length), ∃ t, vs[j] = .str (l.getD j Str.empty) t := by
  induction h with
  | nil => intro j hj; exact absurd hj (Nat.not_lt_zero _)
  | cons y t r ih =>
    intro j hj
    cases j with
    | zero => exact ⟨t, rfl⟩
    | succ j => obtain ⟨t', e⟩ := ih j (by simpa using hj); exact ⟨t', by simpa using e⟩
theorem cm_eq_strs {p q : PV} {l m : List Str} (hp : p.items = some (PS l)) (hq : q.items = some (PS m)) (hu : A.units < cLine) : Cm w A .Eq p q (decide (l = m)) := by
  intro s g v u E le B R₁ R₂
  obtain ⟨a, vs, rfl, hl, rs⟩ := R₁.asList le hp
  obtain ⟨b, ws, rfl, hm, rt⟩ := R₂.asList le hq
  have e1 := rs.length
  have e2 := rt.length
  simp [PS] at e1 e2
  by_cases hsz : l.length = m.length
  · refine eq_listAt (e := fun i => l.getD i Str.empty == m.getD i Str.empty) hl hm (by omega) hu (fun j h1 h2 => ?_) ⟨by rw [e1, all_range_eq l m hsz], g, Grow.refl le⟩
    obtain ⟨t, q1⟩ := strs_at rs.strs j (by simpa using h1)
    obtain ⟨t', q2⟩ := strs_at rt.strs j (by simpa using h2)
    have q1' : vs[j] = .str (l.getD j Str.empty) t := by simpa using q1
    have q2' : ws[j] = .str (m.getD j Str.empty) t' := by simpa using q2
    rw [q1', q2']
    exact (eqGives_str _ _ _ _).at _ _
  · refine eq_list_lengthsAt hl hm (by simp [e1, e2, hsz]) hu ⟨?_, g, Grow.refl le⟩
    have : l ≠ m := fun e => hsz (by rw [e])
    simp [this]
theorem readsAll_strs {h : Heap} : ∀ {vs : List Value} {ns : List Str}, StrsAre vs ns → ReadsAll h vs (ns.map PyData.str) []
  | _, _, .nil => .nil
  | _, _, .cons k t r => by
    have := ReadsAll.cons (Reads.str (h := h) k t) (readsAll_strs (h := h) r)
    simpa using this
theorem canLayAll_strs : ∀ ns : List Str, (∀ x ∈ ns, PyData.strOk x = true) → PyData.canLayAll0 (ns.map PyData.str) = true
  | [], _ => by simp [PyData.canLayAll0]
  | n :: r, h => by simp [PyData.canLayAll0, PyData.canLay0, canLayAll_strs r fun x hx => h x (.tail _ hx), h n (.head _)]
theorem depth_strs : ∀ ns : List Str, PyData.depthAll (ns.map PyData.str) ≤ 1
  | [] => by simp [PyData.depthAll]
  | n :: r => by
    have := depth_strs r
    simp only [List.map_cons, PyData.depthAll, PyData.depth]
    omega
theorem shaped_texts (ns : List Str) (h : ∀ x ∈ ns, PyData.strOk x = true) : shaped (.list (ns.map PyData.str)) = true := by
  have h1 := depth_strs ns
  have h2 : PyData.depth (.list (ns.map PyData.str)) ≤ 64 := by simp only [PyData.depth]; omega
  show (PyData.canLay0 (.list (ns.map PyData.str)) && decide (PyData.depth (.list (ns.map PyData.str)) ≤ 64)) = true
  rw [Bool.and_eq_true]
  exact ⟨by simp only [PyData.canLay0]; exact canLayAll_strs ns h, decide_eq_true h2⟩
theorem noMix_texts : ∀ ns ms : List Str, noMixAll (ns.map PyData.str) (ms.map PyData.str) = true
  | [], [] => by simp [noMixAll]
  | [], _ :: _ => by simp [noMixAll]
  | _ :: _, [] => by simp [noMixAll]
  | _ :: r, _ :: q => by simp [noMixAll, noMix, noMix_texts r q]
theorem same_texts : ∀ ns ms : List Str, PySem.Spec.sameAll (ns.map PyData.str) (ms.map PyData.str) = decide (ns = ms)
  | [], [] => by simp [PySem.Spec.sameAll]
  | [], _ :: _ => by simp [PySem.Spec.sameAll]
  | _ :: _, [] => by simp [PySem.Spec.sameAll]
  | n :: r, k :: q => by
    simp only [List.map_cons, PySem.Spec.sameAll, PySem.Spec.same, same_texts r q]
    by_cases h : n = k <;> simp [h]
theorem cm_ne_strs {p q : PV} {l m : List Str} (hp : p.items = some (PS l)) (hq : q.items = some (PS m)) (hu : A.units + 64 < cLine) (ol : ∀ x ∈ l, PyData.strOk x = true) (om : ∀ x ∈ m, PyData.strOk x = true) : Cm w A .NotEq p q (!decide (l = m)) := by
  intro s g v u E le B R₁ R₂
  obtain ⟨a, vs, rfl, hl, rs⟩ := R₁.asList le hp
  obtain ⟨b, ws, rfl, hm, rt⟩ := R₂.asList le hq
  have r1 : Reads s.heap (.ref a) (.list (l.map PyData.str)) [a] := by obtain ⟨o, ho, hc, n, hd⟩ := hl; exact Reads.list ho hc hd (by simpa using readsAll_strs rs.strs)
  have r2 : Reads s.heap (.ref b) (.list (m.map PyData.str)) [b] := by obtain ⟨o, ho, hc, n, hd⟩ := hm; exact Reads.list ho hc hd (by simpa using readsAll_strs rt.strs)
  refine ne_dataH_same r1 r2 (shaped_texts l ol) (shaped_texts m om) hu (by simp only [noMix]; exact noMix_texts l m) ⟨?_, g, Grow.refl le⟩
  simp only [PySem.Spec.same]; rw [same_texts]
end
end Mine
end
noncomputable section
open PySem PySem.W PySem.Calls PyProof.Rows
namespace Mine

/-! pure: the distance -/
def subCost (x y : Str) : Int := if (x == y) = true then 0 else if (Txt.lower x == Txt.lower y) = true then 1 else 2
noncomputable def pref {α : Type} [DecidableEq α] : List α → List α → Nat
  | x :: xs, y :: ys => if x = y then pref xs ys + 1 else 0
  | _, _ => 0
def suf {α : Type} [DecidableEq α] (a b : List α) : Nat := pref a.reverse b.reverse
def mn2 (a b : Int) : Int := if b < a then b else a
structure DS where
  d : Int
  r : Int
  mn : Int
  row : List Int
noncomputable def innerAt (c : Nat → Int) (row0 : List Int) (d0 : Int) : Nat → DS
  | 0 => ⟨d0, d0, 9223372036854775807, row0⟩
  | i + 1 =>
    let s := innerAt c row0 d0 i
    let r' := mn2 (mn2 s.r (s.row.getD i 0) + 2) (s.d + c i)
    ⟨s.row.getD i 0, r', if r' < s.mn then r' else s.mn, s.row.set i r'⟩
noncomputable def outerAt (c : Nat → Nat → Int) (n : Nat) : Nat → List Int × Int
  | 0 => (rInts 2 2 n, 0)
  | j + 1 => ((innerAt (c j) (outerAt c n j).1 ((j : Int) * 2) n).row, (innerAt (c j) (outerAt c n j).1 ((j : Int) * 2) n).r)
def minAt (c : Nat → Nat → Int) (n j : Nat) : Int := (innerAt (c j) (outerAt c n j).1 ((j : Int) * 2) n).mn
def dp (c : Nat → Nat → Int) (n m : Nat) (mc : Int) : Option Int := if ((List.range m).all fun j => !decide (mc < minAt c n j)) = true then some (outerAt c n m).2 else none

theorem innerAt_len (c : Nat → Int) (row0 : List Int) (d0 : Int) : ∀ i, (innerAt c row0 d0 i).row.length = row0.length
  | 0 => rfl
  | i + 1 => by show (List.set _ _ _).length = _; rw [List.length_set]; exact innerAt_len c row0 d0 i
theorem rInts_length (a c : Int) (n : Nat) : (rInts a c n).length = n := by simp [rInts]
theorem outerAt_len (c : Nat → Nat → Int) (n : Nat) : ∀ j, (outerAt c n j).1.length = n
  | 0 => rInts_length ..
  | j + 1 => by show (innerAt _ _ _ _).row.length = n; rw [innerAt_len, outerAt_len c n j]

theorem pref_le {α : Type} [DecidableEq α] : ∀ (a b : List α), pref a b ≤ a.length ∧ pref a b ≤ b.length
  | [], _ => ⟨Nat.zero_le _, Nat.zero_le _⟩
  | _ :: _, [] => ⟨Nat.zero_le _, Nat.zero_le _⟩
  | x :: xs, y :: ys => by
    unfold pref
    split
    · have := pref_le xs ys
      simp
      omega
    · exact ⟨Nat.zero_le _, Nat.zero_le _⟩
theorem pref_lt {α : Type} [DecidableEq α] : ∀ (a b : List α) (i : Nat), i < pref a b → ∃ x, a[i]? = some x ∧ b[i]? = some x
  | [], _, i, h => by simp [pref] at h
  | _ :: _, [], i, h => by simp [pref] at h
  | x :: xs, y :: ys, i, h => by
    unfold pref at h
    split at h
    · rename_i e
      cases i with
      | zero => exact ⟨x, rfl, by simp [e]⟩
      | succ i => obtain ⟨z, h1, h2⟩ := pref_lt xs ys i (by omega); exact ⟨z, by simpa using h1, by simpa using h2⟩
    · exact absurd h (Nat.not_lt_zero _)
theorem pref_stop {α : Type} [DecidableEq α] : ∀ (a b : List α), a.length ≤ pref a b ∨ b.length ≤ pref a b ∨ ∃ x y, a[pref a b]? = some x ∧ b[pref a b]? = some y ∧ x ≠ y
  | [], _ => .inl (Nat.zero_le _)
  | _ :: _, [] => .inr (.inl (Nat.zero_le _))
  | x :: xs, y :: ys => by
    unfold pref
    split
    · rcases pref_stop xs ys with h | h | ⟨u, v, h1, h2, h3⟩
      · left; simp; exact h
      · right; left; simp; exact h
      · right; right; exact ⟨u, v, by simpa using h1, by simpa using h2, h3⟩
    · rename_i e
      right; right; exact ⟨x, y, rfl, rfl, e⟩

/-- what the loop asks at place i -/
def askPre (a b : List Str) (i : Nat) : Bool := (!(a.drop i).isEmpty) && ((!(b.drop i).isEmpty) && ((a.getD i Str.empty == b.getD i Str.empty) && true))
theorem isEmpty_drop {α : Type} (a : List α) (i : Nat) : (a.drop i).isEmpty = decide (a.length ≤ i) := by
  rw [Bool.eq_iff_iff, List.isEmpty_iff, decide_eq_true_eq]
  exact List.drop_eq_nil_iff
theorem isEmpty_take {α : Type} (a : List α) (i : Nat) : (a.take i).isEmpty = decide (a.length = 0 ∨ i = 0) := by
  rw [Bool.eq_iff_iff, List.isEmpty_iff, decide_eq_true_eq, List.take_eq_nil_iff]
  constructor
  · rintro (h | h)
    · exact .inr h
    · exact .inl (by simp [h])
  · rintro (h | h)
    · exact .inr (List.eq_nil_of_length_eq_zero h)
    · exact .inl h
theorem askPre_lt {a b : List Str} {i : Nat} (h : i < pref a b) : askPre a b i = true := by
  obtain ⟨x, h1, h2⟩ := pref_lt a b i h
  have l1 := (List.getElem?_eq_some_iff.mp h1).1
  have l2 := (List.getElem?_eq_some_iff.mp h2).1
  unfold askPre
  rw [isEmpty_drop, isEmpty_drop, List.getD_eq_getElem?_getD, List.getD_eq_getElem?_getD, h1, h2]
  simp
  omega
theorem askPre_stop (a b : List Str) : askPre a b (pref a b) = false := by
  unfold askPre
  rcases pref_stop a b with h | h | ⟨x, y, h1, h2, h3⟩
  · rw [isEmpty_drop]; simp [h]
  · rw [isEmpty_drop, isEmpty_drop]; simp [h]
  · rw [List.getD_eq_getElem?_getD, List.getD_eq_getElem?_getD, h1, h2]; simp [h3]

def askSuf (a b : List Str) (k : Nat) : Bool := (!(a.take (a.length - k)).isEmpty) && ((!(b.take (b.length - k)).isEmpty) && ((a.getD (a.length - 1 - k) Str.empty == b.getD (b.length - 1 - k) Str.empty) && true))
theorem rev_get {α : Type} {a : List α} {i : Nat} {x : α} (h : a.reverse[i]? = some x) : i < a.length ∧ a[a.length - 1 - i]? = some x := by
  have l := (List.getElem?_eq_some_iff.mp h).1
  rw [List.length_reverse] at l
  rw [List.getElem?_reverse l] at h
  exact ⟨l, h⟩
theorem askSuf_lt {a b : List Str} {k : Nat} (h : k < suf a b) : askSuf a b k = true := by
  obtain ⟨x, h1, h2⟩ := pref_lt _ _ k h
  obtain ⟨l1, g1⟩ := rev_get h1
  obtain ⟨l2, g2⟩ := rev_get h2
  unfold askSuf
  have e1 : ¬ (a.length = 0 ∨ a.length - k = 0) := by omega
  have e2 : ¬ (b.length = 0 ∨ b.length - k = 0) := by omega
  rw [isEmpty_take, isEmpty_take, List.getD_eq_getElem?_getD, List.getD_eq_getElem?_getD, g1, g2, decide_eq_false e1, decide_eq_false e2]
  simp
theorem askSuf_stop (a b : List Str) : askSuf a b (suf a b) = false := by
  unfold askSuf
  have e := pref_stop a.reverse b.reverse
  rw [List.length_reverse, List.length_reverse] at e
  rcases e with h | h | ⟨x, y, h1, h2, h3⟩
  · have h' : a.length ≤ suf a b := h
    rw [isEmpty_take]; simp; intro h0; omega
  · have h' : b.length ≤ suf a b := h
    rw [isEmpty_take, isEmpty_take]; simp; intros; omega
  · obtain ⟨l1, g1⟩ := rev_get h1
    obtain ⟨l2, g2⟩ := rev_get h2
    have g1' : a[a.length - 1 - suf a b]? = some x := g1
    have g2' : b[b.length - 1 - suf a b]? = some y := g2
    rw [List.getD_eq_getElem?_getD, List.getD_eq_getElem?_getD, g1', g2']; simp [h3]
theorem suf_le {α : Type} [DecidableEq α] (a b : List α) : suf a b ≤ a.length ∧ suf a b ≤ b.length := by
  have := pref_le a.reverse b.reverse
  simpa [suf] using this

def levTail (a b : List Str) (mc : Int) : Option Int := if ((b.length : Int) - a.length) * 2 > mc then none else dp (fun j i => subCost (b.getD j Str.empty) (a.getD i Str.empty)) a.length b.length mc
def levCut (a b : List Str) (mc : Int) : Option Int :=
  if a = [] ∨ b = [] then some (2 * ((a.length : Int) + b.length))
  else if a.length > 40 ∨ b.length > 40 then none
  else if b.length < a.length then levTail b a mc else levTail a b mc
def trimA (a b : List Str) : List Str := (a.drop (pref a b)).take ((a.drop (pref a b)).length - suf (a.drop (pref a b)) (b.drop (pref a b)))
def trimB (a b : List Str) : List Str := (b.drop (pref a b)).take ((b.drop (pref a b)).length - suf (a.drop (pref a b)) (b.drop (pref a b)))
def lev (a b : List Str) (mc : Int) : Option Int := if a = b then some 0 else levCut (trimA a b) (trimB a b) mc
end Mine
end
noncomputable section
open PySem PySem.W PySem.Calls PyProof.Rows
namespace Mine
section
variable {w : World} {A : Around} {env : Env} {V : Vars} {s₀ s : Shared} {g₀ g : Gm} {ks : List (Addr × Obj)} {gp : Gm} {E : Value → Shared → Prop} {Q : Flow → Shared → Prop} {rest : List Stmt}

theorem st_assign2 {x y : Str} {px py pos : Pos} {value : Expr} {p : PV} (S : SInv w s₀ g₀ env ks gp s g V) (h : Ex w A env V value p) (hp : p.fz = true) (hx : slotB env x = true) (hy : slotB env y = true)
    (k : ∀ s' g', SInv w s₀ g₀ env ks gp s' g' (upd y p (upd x p V)) → wpAny (MM w) A (execs rest env) Q E s')
    (h1 : (assignEach [.Name x px, .Name y py] env).map (·.2) = [assign (.Name x px) env, assign (.Name y py) env] := by rfl) (h2 : swappedStores [.Name x px, .Name y py] value env = pure none := by rfl) :
    wpAny (MM w) A (execs (.Assign [.Name x px, .Name y py] value pos :: rest) env) Q E s := by
  refine wpAny_execs_cons (wpAny_Assign_two (h.run S.inv fun v s₁ g₁ G₁ R₁ I₁ => ?_) h1 h2)
  refine wpAny_assign_Name ((S.step G₁).storeF hx (R₁.fz hp) fun s₂ S₂ => ?_)
  exact wpAny_assign_Name (S₂.storeF hy (R₁.fz hp) fun s₃ S₃ => k s₃ g₁ S₃)

theorem st_swap {x y : Str} {elts : List Expr} {k tk : Nat} {tpos vpos pos : Pos} {es : List Expr} {p q : PV} (hh : A.handled = none) (S : SInv w s₀ g₀ env ks gp s g V) (h : Exs w A env V vpos es [p, q]) (hx : slotB env x = true) (hy : slotB env y = true) (hp : p.fz = true)
    (hs : swapsWithSole [.Tuple elts k tpos] (.Tuple es tk vpos) pos.line env = pure false) (hw : swappedStores [.Tuple elts k tpos] (.Tuple es tk vpos) env = pure (some [x, y]))
    (kk : ∀ s' g', SInv w s₀ g₀ env ks gp s' g' (upd x p (upd y q V)) → wpAny (MM w) A (execs rest env) Q E s') :
    wpAny (MM w) A (execs (.Assign [.Tuple elts k tpos] (.Tuple es tk vpos) pos :: rest) env) Q E s := by
  refine wpAny_execs_cons (Assign_Tuple_swapped (names := [x, y]) ((ex_tup h (by show 2 ≤ 1000; omega)).run S.inv fun v s₁ g₁ G₁ R₁ I₁ => ?_) hs hw)
  have S₁ := S.step G₁
  cases (show Rep g₁ v (.tup [p, q]) from R₁) with
  | tup hg rs =>
    rename_i a n vs
    obtain ⟨l⟩ := vs
    cases rs with
    | cons r1 rs =>
      cases rs with
      | cons r2 rs =>
        cases rs
        rename_i v1 v2
        have ht : s₁.heap.IsTuple a #[v1, v2] := ⟨_, I₁.le _ _ hg, rfl, _, rfl⟩
        show wpAny _ _ (unpackItems (.ref a) (#[v1, v2] : Array Value).size none) _ _ _
        refine wpAny_unpackItems_tuple hh ht fun h' eb => ?_
        show wpAny _ _ (assignInOrder [fun v => bindName env y v, fun v => bindName env x v] [v2, v1]) _ _ _
        have kp : ∀ b o, s₁.heap.get? b = some o → h'.get? b = some o := fun b o e => eb b o (Nat.ne_of_lt (Heap.lt_size e)) e
        have S₂ : SInv w s₀ g₀ env ks gp { s₁ with heap := h' } g₁ V := S₁.step (Grow.keep (tk := s₁.toks) S₁.grow.le kp)
        refine wpAny_assignInOrder_more (wpAny_bindName (S₂.storeF hy r2 fun s₃ S₃ => ?_))
        refine wpAny_assignInOrder_more (wpAny_bindName (S₃.storeF hx r1 fun s₄ S₄ => ?_))
        exact wpAny_assignInOrder_none (kk s₄ g₁ S₄)

theorem mul_two_r (i : Int) : IntMulOk i 2 := by
  unfold IntMulOk
  have : decide (Builtin.Int.intBits 2 > shortFactorBits) = false := by decide +kernel
  rw [this]; simp
theorem mul_two_l (i : Int) : IntMulOk 2 i := by
  unfold IntMulOk
  have : decide (Builtin.Int.intBits 2 > shortFactorBits) = false := by decide +kernel
  rw [this]; simp

theorem exL_listRange {np pos : Pos} {x : Str} {e : Expr} {a b c : Int} {n : Nat} {t : Sem Value} {rest : List (Bool × Sem Value)} (hh : A.handled = none) (hf : Ex w A env V (.Name x np) (.val (.type "list"))) (ha : Exs w A env V pos [e] [.range a b c])
    (hs : Builtin.Range.small a b c = true) (hn : Builtin.Range.rangeSize a b c = (n : Int)) (hl : n ≤ 100000)
    (hb : backTo pos (starEach [e] env) = (false, t) :: rest := by rfl) (hp : (backTo pos (starEach [e] env)).any (·.1) = false := by rfl) : ExL w A env V (.Call (.Name x np) [e] [] pos) (PI (rInts a c n)) := by
  intro s g E I
  refine wpAny_Call_NameR (hf.run I fun v s₁ g₁ G₁ R₁ I₁ => ?_)
  cases (show Rep g₁ v (.val _) from R₁)
  refine PySem.callWith_type hp (args_run ha I₁ hb fun vs s₂ g₂ G₂ R₂ I₂ => ?_)
  cases R₂ with
  | cons r rs =>
    cases rs
    cases r with
    | range hg =>
      refine call_list_range hh (I₂.le _ _ hg) hs hn (by omega) fun h' tk acc c' hk ho it => ?_
      refine ⟨s₂.heap.objs.size, acc, c', rfl, keeps_trans (keeps_trans G₁.keeps G₂.keeps) ⟨h', tk, rfl, hk⟩, ?_, ho, fun g' => ?_⟩
      · cases e : s.heap.get? s₂.heap.objs.size with
        | none => rfl
        | some o => exact absurd (Heap.lt_size ((G₁.trans G₂).get _ _ e)) (Nat.lt_irrefl _)
      · obtain ⟨h1, h2⟩ := it
        have key : ∀ (l : List Value) (k : Nat), (∀ j v, l[j]? = some v → ∃ t, v = Value.int (a + ((k + j : Nat) : Int) * c) t) → Reps g' l ((List.range' k l.length).map fun (i : Nat) => PV.int (a + (i : Int) * c)) := by
          intro l
          induction l with
          | nil => intro k _; exact .nil
          | cons v l ih =>
            intro k hk
            obtain ⟨t, rfl⟩ := hk 0 v rfl
            rw [List.length_cons, List.range'_succ, List.map_cons]
            refine .cons (by simpa using Rep.int _ t) (ih (k + 1) fun j u hu => ?_)
            obtain ⟨t', e⟩ := hk (j + 1) u (by simpa using hu)
            exact ⟨t', by rw [e]; congr 3; omega⟩
        have := key acc.toList 0 fun j v hv => by obtain ⟨t, e⟩ := h2 j v (by simpa using hv); exact ⟨t, by simpa using e⟩
        rw [Array.length_toList, h1] at this
        simpa [PI, rInts, List.range_eq_range', Function.comp_def] using this

theorem slice_from {l : List PV} (i : Nat) : sliceL l (some (i : Int)) none = l.drop i := by
  unfold sliceL
  simp only [Option.elim]
  have : clipAt l.length (i : Int) = min i l.length := clipAt_nat _ _
  rw [this]
  by_cases h : i ≤ l.length
  · rw [Nat.min_eq_left h, List.take_of_length_le (by simp)]
  · rw [Nat.min_eq_right (by omega)]; simp; omega
theorem slice_upto {l : List PV} (k : Nat) : sliceL l none (if k = 0 then none else some (-(k : Int))) = l.take (l.length - k) := by
  unfold sliceL
  by_cases h : k = 0
  · subst h; simp
  · rw [if_neg h]
    simp only [Option.elim]
    have : clipAt l.length (-(k : Int)) = l.length - k := clipAt_neg _ _ (by omega)
    rw [this]; simp
end
end Mine
end
noncomputable section
open PySem PySem.W PySem.Calls PyProof.Rows
namespace Mine

local macro_rules | `(tactic| walk_at "mem") => `(tactic| first
  | with_reducible exact List.mem_cons_self
  | ((with_reducible refine List.mem_cons_of_mem _ ?_); walk_at "mem")
  | ((with_reducible refine mem_cap ?hm ?hc); (case hc => rfl); (case hm => walk_at "mem"))
  | with_reducible exact mem_upd_self
  | ((with_reducible refine mem_upd ?hm ?hc); (case hc => rfl); (case hm => walk_at "mem")))

local macro_rules | `(tactic| walk_at "sole") => `(tactic| first
  | with_reducible exact sole_nil
  | ((with_reducible refine sole_upd ?hm ?hp); (case hp => (first | (intro _ _ e; cases e; done) | exact fun _ _ _ => .inl rfl)); (case hm => walk_at "sole"))
  | ((with_reducible refine sole_cons ?hm ?hp); (case hp => (first | (intro _ _ e; cases e; done) | exact fun _ _ _ => .inl rfl)); (case hm => walk_at "sole")))

def setSz (l : List Int) : Nat := (firstMet (fun i => l.getD i 0) l.length).length
def bitAt (k j v : Int) : Int := Builtin.bitAnd (Builtin.bitXor (v.fdiv (2 ^ k.toNat)) (v.fdiv (2 ^ j.toNat))) 1
def goesWith (ms : List Int) (k j : Int) : Bool := ((setSz (ms.map (bitAt k j)) : Int) == 1)
def keptStep (ms kept : List Int) (k : Int) : List Int := if decide ((kept ++ [3]).filter (goesWith ms k) = []) = true then kept ++ [k] else kept
noncomputable def keptAt (ms : List Int) : Nat → List Int
  | 0 => []
  | i + 1 => keptStep ms (keptAt ms i) i
def shl1 (k : Int) : Int := 1 * 2 ^ k.toNat
def keptF (ms : List Int) : Int := ((keptAt ms 3).map shl1).sum

theorem keptAt_ok (ms : List Int) : ∀ i, (keptAt ms i).length ≤ i ∧ ∀ k ∈ keptAt ms i, 0 ≤ k ∧ k < i
  | 0 => ⟨Nat.le_refl _, fun k h => nomatch h⟩
  | i + 1 => by
    obtain ⟨a, b⟩ := keptAt_ok ms i
    show (keptStep ms (keptAt ms i) i).length ≤ i + 1 ∧ ∀ k ∈ keptStep ms (keptAt ms i) i, _
    unfold keptStep
    split
    · refine ⟨by simp; omega, fun k hk => ?_⟩
      rcases List.mem_append.mp hk with h | h
      · have := b k h; omega
      · simp at h; omega
    · exact ⟨by omega, fun k hk => by have := b k hk; omega⟩
theorem rInts_get {a c : Int} {n i : Nat} {x : Int} (h : (rInts a c n)[i]? = some x) : i < n ∧ x = a + (i : Int) * c := by
  unfold rInts at h
  rw [List.getElem?_map] at h
  obtain ⟨j, hj, rfl⟩ := Option.map_eq_some_iff.mp h
  obtain ⟨h1, h2⟩ := List.getElem?_eq_some_iff.mp hj
  simp at h1 h2
  exact ⟨h1, by rw [h2]⟩
theorem setSz_le (l : List Int) : setSz l ≤ l.length := firstMet_length_le _ _

section
variable {w : World} {A : Around}
set_option maxHeartbeats 4000000 in
theorem fn_kept {k : Nat} (hA : AOk (k + 1) A) (ms : List Int) (hn : ms.length ≤ 900) : Fn w A (.ref 225) [.list (PI ms)] (.int (keptF ms)) := by
  refine fn_intro (xs := [Str.ofString "members"]) hA (by rfl) rfl rfl rfl (by rfl) ?bind rfl (by decide) (by rfl) rfl rfl rfl rfl rfl rfl ?_
  case bind => intro vs h; match vs, h with | [v], _ => rfl
  intro L s₀ g₀ s g E S hA'
  have hh := hA'.1
  have hu : (A.deeper (callEnvC (fdOf (topStmt 20) (Str.ofString "_law_kept") .none (.str (Str.ofString "law_rl0113_01") 631) 224) L 225)).units + 64 < cLine := by have := hA'.2.2; show _ < 9900; omega
  replace S : SInv w s₀ g₀ _ [] g₀ s g [(Str.ofString "members", .list (PI ms))] := S
  refine st_assignL S (exL_list (ps := []) exs_nil (by decide) flat_nil) (by rfl) fun a s₁ g₁ S₁ => ?_
  refine st_for PV.int (xs := rInts 0 1 3) (fun i => [(Str.ofString "members", .list (PI ms)), (Str.ofString "kept", .mut a (PI (keptAt ms i)))]) S₁ (ex_callT (ex_blt gl_range bb_range rfl) (exs_cons ex_int exs_nil) fn_range1) (itrF_range (n := 3) hh rfl rfl) (by rfl)
    (fun q hq => ?_) (fun i k₀ I ob gp' s₂ g₂ E₂ hi hgp S₂ => ?_) fun s₂ g₂ E₂ S₂ => ?_
  · simp at hq
    rcases hq with rfl | rfl
    · walk_at "mem"
    · exact mem_upd_self
  · obtain ⟨hi3, rfl⟩ := rInts_get hi
    obtain ⟨kl, kb⟩ := keptAt_ok ms i
    have e0 : (0 : Int) + (i : Int) * 1 = i := by omega
    rw [e0] at S₂
    have hj : ∀ j ∈ keptAt ms i ++ [3], 0 ≤ j := fun j hj => by
      rcases List.mem_append.mp hj with h | h
      · exact (kb j h).1
      · simp at h; omega
    refine st_if (c := decide ((keptAt ms i ++ [3]).filter (goesWith ms i) = [])) S₂ ?_ (fun hc s₃ g₃ S₃ => ?_) fun hc s₃ g₃ S₃ => ?_
    · refine tr_cmp (cm_eq_ints (p := .list (PI ((keptAt ms i ++ [3]).filter (goesWith ms i)))) (q := .list (PI [])) rfl rfl hu) ?_ (ex_list exs_nil)
      refine Ex.eq (ex_comp PV.int (goesWith ms i) PV.int (xs := keptAt ms i ++ [3]) (pi := .list (PI (keptAt ms i) ++ [.int 3])) (ex_bin (bi_addL (p := .mut a (PI (keptAt ms i))) (q := .list [.int 3]) rfl rfl (by simp [PI]; omega)) (ex_name (by walk_at "mem")) (ex_list (exs_cons ex_int exs_nil))) (itr_list hh (by simp [PV.items, PI])) (fun C j hjm => tf_one ?_) (fun C j hjm _ => ex_name (by walk_at "mem")) (fun _ _ _ => rfl) (by simp; omega) (.inr rfl)) rfl
      refine tr_cmp (cm_eq_int (i := (setSz (ms.map (bitAt i j)) : Int)) (j := 1)) ?_ ex_int
      refine ex_callB (ex_blt gl_len bb_len rfl) (exs_cons (p := .set (setSz (ms.map (bitAt i j)))) ?_ exs_nil) (fn_lenset (by have := setSz_le (ms.map (bitAt i j)); simp at this; omega))
      refine ex_callT (ex_blt gl_set bb_set rfl) (exs_cons (p := .list (PI (ms.map (bitAt i j)))) ?_ exs_nil) (fn_set hh (by simp; omega))
      refine Ex.eq (ex_compM PV.int (fun v => .int (bitAt i j v)) (xs := ms) (ex_name (p := .list (PI ms)) (by walk_at "mem")) (itr_list hh rfl) (fun C' v hv => ?_) (fun _ _ => rfl) (by omega) (.inl rfl)) (by simp [PI])
      exact ex_bin bi_and (ex_bin bi_xor (ex_bin (bi_shr (by omega)) (ex_name (by walk_at "mem")) (ex_name (by walk_at "mem"))) (ex_bin (bi_shr (hj j hjm)) (ex_name (by walk_at "mem")) (ex_name (by walk_at "mem")))) ex_int
    · refine st_append S₃ (a := a) (l := PI (keptAt ms i)) (by walk_at "mem") ?sole (ex_name (by walk_at "mem")) rfl (by simp [PI]; omega) fun s₄ g₄ S₄ => ?_
      case sole => walk_at "sole"
      refine st_nil (st_nil ⟨g₄, S₄.less fun q hq => ?_⟩)
      have e1 : keptAt ms (i + 1) = keptAt ms i ++ [(i : Int)] := by show keptStep _ _ _ = _; unfold keptStep; rw [if_pos hc]
      simp [e1] at hq
      rcases hq with rfl | rfl
      · walk_at "mem"
      · simp only [PI, List.map_append]; exact mem_upd_self
    · refine st_nil (st_nil ⟨g₃, S₃.less fun q hq => ?_⟩)
      have e1 : keptAt ms (i + 1) = keptAt ms i := by show keptStep _ _ _ = _; unfold keptStep; rw [if_neg (by rw [hc]; decide)]
      simp [e1] at hq
      rcases hq with rfl | rfl <;> walk_at "mem"
  · replace S₂ : SInv w s₀ g₀ _ [] g₀ s₂ g₂ [(Str.ofString "members", .list (PI ms)), (Str.ofString "kept", .mut a (PI (keptAt ms 3)))] := S₂
    refine st_nil ?_
    show wpAny _ _ _ _ _ _
    obtain ⟨kl, kb⟩ := keptAt_ok ms 3
    refine st_return S₂ ?_ rfl
    unfold keptF
    refine ex_callB (ps := [.list (PI ((keptAt ms 3).map shl1))]) (ex_blt gl_sum bb_sum rfl) (exs_cons ?_ exs_nil) (fn_sum (ns := (keptAt ms 3).map shl1) hh)
    refine Ex.eq (ex_compM PV.int (fun k => .int (shl1 k)) (xs := keptAt ms 3) (ex_name (p := .mut a (PI (keptAt ms 3))) (by walk_at "mem")) (itr_list hh rfl) (fun C v hv => ex_bin (bi_shl (kb v hv).1 (by have := (kb v hv).2; omega) (by simp)) ex_int (ex_name (by walk_at "mem"))) (fun _ _ => rfl) (by omega) (.inl rfl)) (by simp [PI])
end
end Mine
end
noncomputable section
open PySem PySem.W PySem.Calls PyProof.Rows
namespace Mine

local macro_rules | `(tactic| walk_at "mem") => `(tactic| first
  | with_reducible exact List.mem_cons_self
  | ((with_reducible refine List.mem_cons_of_mem _ ?_); walk_at "mem")
  | ((with_reducible refine mem_cap ?hm ?hc); (case hc => rfl); (case hm => walk_at "mem"))
  | with_reducible exact mem_upd_self
  | ((with_reducible refine mem_upd ?hm ?hc); (case hc => rfl); (case hm => walk_at "mem")))
theorem sub_nil {V : Vars} : ∀ q ∈ ([] : Vars), q ∈ V := fun _ h => nomatch h
theorem sub_cons {V l : Vars} {y : Str} {p : PV} (h : (y, p) ∈ V) (r : ∀ q ∈ l, q ∈ V) : ∀ q ∈ (y, p) :: l, q ∈ V := fun q hq => by
  cases hq with
  | head => exact h
  | tail _ hq => exact r q hq
local macro_rules | `(tactic| walk_at "sub") => `(tactic| first
  | with_reducible exact sub_nil
  | ((with_reducible refine sub_cons ?hm ?hc); (case hc => walk_at "sub"); (case hm => walk_at "mem")))
local macro_rules | `(tactic| walk_at "sole") => `(tactic| first
  | with_reducible exact sole_nil
  | ((with_reducible refine sole_upd ?hm ?hp); (case hp => (first | (intro _ _ e; cases e; done) | exact fun _ _ _ => .inl rfl)); (case hm => walk_at "sole"))
  | ((with_reducible refine sole_cons ?hm ?hp); (case hp => (first | (intro _ _ e; cases e; done) | exact fun _ _ _ => .inl rfl)); (case hm => walk_at "sole")))

section
variable {w : World} {A : Around}

theorem fn_subst {k : Nat} (hA : AOk (k + 1) A) (x y : Str) (hx : x.length ≤ 1000) (hy : y.length ≤ 1000) : Fn w A (.ref 201) [.str x, .str y] (.int (subCost x y)) := by
  refine fn_intro (xs := [Str.ofString "ch_a", Str.ofString "ch_b"]) hA (by rfl) rfl rfl rfl (by rfl) ?bind rfl (by decide) (by rfl) rfl rfl rfl rfl rfl rfl ?_
  case bind => intro vs h; match vs, h with | [v, u], _ => rfl
  intro L s₀ g₀ s g E S hA'
  replace S : SInv w s₀ g₀ _ [] g₀ s g [(Str.ofString "ch_a", .str x), (Str.ofString "ch_b", .str y)] := S
  refine st_if (c := x == y) S (tr_cmp cm_eq_str (ex_name (by walk_at "mem")) (ex_name (by walk_at "mem"))) (fun hc s₁ g₁ S₁ => ?_) fun hc s₁ g₁ S₁ => st_nil ?_
  · exact st_return (p := .int (subCost x y)) S₁ (Ex.eq ex_int (by unfold subCost; rw [if_pos hc])) rfl
  show wpAny _ _ _ _ _ _
  refine st_if (c := Txt.lower x == Txt.lower y) S₁ (tr_cmp cm_eq_str (ex_lower (ex_name (by walk_at "mem")) (by omega)) (ex_lower (ex_name (by walk_at "mem")) (by omega))) (fun hc2 s₂ g₂ S₂ => ?_) fun hc2 s₂ g₂ S₂ => st_nil ?_
  · exact st_return (p := .int (subCost x y)) S₂ (Ex.eq (ex_glob gl_CASE_COST (fun g => .int 1 601) rfl) (by unfold subCost; rw [hc, if_neg (by decide), if_pos hc2])) rfl
  show wpAny _ _ _ _ _ _
  exact st_return (p := .int (subCost x y)) S₂ (Ex.eq (ex_glob gl_MOVE_COST (fun g => .int 2 599) rfl) (by unfold subCost; rw [hc, hc2]; rfl)) rfl

abbrev fdLev : FuncData := fdOf (topStmt 16) (Str.ofString "_levenshtein_distance") .none (.str (Str.ofString "cpy313.traceback") 595) 207
abbrev envLev (L : Addr) : Env := callEnvC fdLev L 208

theorem ps_get {l : List Str} {i : Nat} (h : i < l.length) : (PS l)[i]? = some (.str (l.getD i Str.empty)) := by
  simp [PS, List.getElem?_map, List.getElem?_eq_getElem h, List.getD_eq_getElem?_getD]
theorem pi_get {l : List Int} {i : Nat} (h : i < l.length) : (PI l)[i]? = some (.int (l.getD i 0)) := by
  simp [PI, List.getElem?_map, List.getElem?_eq_getElem h, List.getD_eq_getElem?_getD]
theorem ps_len (l : List Str) : (PS l).length = l.length := by simp [PS]
theorem pi_len (l : List Int) : (PI l).length = l.length := by simp [PI]
theorem pi_set (l : List Int) (i : Nat) (x : Int) : (PI l).set i (.int x) = PI (l.set i x) := by simp [PI, List.map_set]

theorem rsize_two (n : Nat) : Builtin.Range.rangeSize 2 (2 * ((n : Int) + 1)) 2 = (n : Int) := by
  unfold Builtin.Range.rangeSize
  rw [if_pos (by decide)]
  split <;> omega
theorem fits (i : Int) (h1 : 0 ≤ i) (h2 : i < 9223372036854775808) : Builtin.Range.rangeFitsLong i = true := by
  have e : (2 : Int) ^ 63 = 9223372036854775808 := by rfl
  simp only [Builtin.Range.rangeFitsLong, Bool.and_eq_true, decide_eq_true_eq]
  rw [e]
  omega
theorem rsmall_two (n : Nat) (h : n ≤ 1000) : Builtin.Range.small 2 (2 * ((n : Int) + 1)) 2 = true := by
  have e : (2 : Int) ^ 63 = 9223372036854775808 := by rfl
  simp only [Builtin.Range.small, rsize_two, Bool.and_eq_true, Bool.or_eq_true, decide_eq_true_eq, beq_iff_eq, show (2 : Int) > 0 by decide, if_true]
  rw [fits 2 (by omega) (by omega), fits (2 * ((n : Int) + 1)) (by omega) (by omega)]
  exact ⟨⟨⟨⟨rfl, rfl⟩, rfl⟩, fits _ (by omega) (by omega)⟩, .inr (fits _ (by omega) (by omega))⟩
theorem rsize_one (n : Nat) : Builtin.Range.rangeSize 0 (n : Int) 1 = (n : Int) := by
  rw [rangeSize_one]; split <;> omega
theorem rsmall_one (n : Nat) (h : n ≤ 1000000) : Builtin.Range.small 0 (n : Int) 1 = true := small_one (by omega) (by omega) (by omega) (by omega)


theorem ex_len {x : Str} {np pos : Pos} {env : Env} {V : Vars} {e : Expr} {l : List PV} (hf : Ex w A env V (.Name x np) (.val (.builtin "len"))) (he : Ex w A env V e (.list l)) (hl : l.length ≤ 1000000)
    (hb : backTo pos (starEach [e] env) = [(false, eval e env)] := by rfl) (hq : backTo pos (starEach [e] env) = (false, eval e env) :: backTo pos (starEach [] env) := by rfl) (hp : (backTo pos (starEach [e] env)).any (·.1) = false := by rfl) : Ex w A env V (.Call (.Name x np) [e] [] pos) (.int l.length) :=
  ex_callB hf (exs_cons he exs_nil rfl hq) (fn_len rfl hl) hb hp

def cst (a b : List Str) (j i : Nat) : Int := subCost (b.getD j Str.empty) (a.getD i Str.empty)
def iS (a b : List Str) (j i : Nat) : DS := innerAt (cst a b j) (outerAt (cst a b) a.length j).1 ((j : Int) * 2) i
def iW (a b : List Str) (mc : Int) (ar : Addr) (j : Nat) (row : List Int) (d r mn : Int) : Vars := [(Str.ofString "a", .list (PS a)), (Str.ofString "b", .list (PS b)), (Str.ofString "max_cost", .int mc), (Str.ofString "bchar", .str (b.getD j Str.empty)),
  (Str.ofString "row", .mut ar (PI row)), (Str.ofString "distance", .int d), (Str.ofString "result", .int r), (Str.ofString "minimum", .int mn)]
def iV (a b : List Str) (mc : Int) (ar : Addr) (j i : Nat) : Vars := iW a b mc ar j (iS a b j i).row (iS a b j i).d (iS a b j i).r (iS a b j i).mn
def oW (a b : List Str) (mc : Int) (ar : Addr) (row : List Int) (r : Int) : Vars := [(Str.ofString "a", .list (PS a)), (Str.ofString "b", .list (PS b)), (Str.ofString "max_cost", .int mc), (Str.ofString "row", .mut ar (PI row)), (Str.ofString "result", .int r)]
def oV (a b : List Str) (mc : Int) (ar : Addr) (j : Nat) : Vars := oW a b mc ar (outerAt (cst a b) a.length j).1 (outerAt (cst a b) a.length j).2
theorem iS_len (a b : List Str) (j i : Nat) : (iS a b j i).row.length = a.length := by unfold iS; rw [innerAt_len, outerAt_len]

set_option maxHeartbeats 4000000 in
theorem lev_tail {k : Nat} {L : Addr} {a b : List Str} {mc d : Int} {s₀ s : Shared} {g₀ g : Gm} {E : Value → Shared → Prop} (hA : AOk (k + 1) A) (hal : a.length ≤ 40) (hbl : b.length ≤ 40) (ha : ∀ x ∈ a, x.length ≤ 1000) (hb : ∀ x ∈ b, x.length ≤ 1000)
    (hd : levTail a b mc = some d)
    (S : SInv w s₀ g₀ (envLev L) [] g₀ s g [(Str.ofString "a", .list (PS a)), (Str.ofString "b", .list (PS b)), (Str.ofString "max_cost", .int mc)]) :
    wpAny (MM w) A (execs ((sBody (topStmt 16)).drop 12) (envLev L)) (RetP s₀ g₀ (.int d)) E s := by
  have hh := hA.1
  unfold levTail at hd
  have gA : ∀ i, (a.getD i Str.empty).length ≤ 1000 := fun i => by
    rw [List.getD_eq_getElem?_getD]
    cases e : a[i]? with
    | none => exact Nat.zero_le _
    | some x => exact ha x (List.mem_of_getElem? e)
  have gB : ∀ i, (b.getD i Str.empty).length ≤ 1000 := fun i => by
    rw [List.getD_eq_getElem?_getD]
    cases e : b[i]? with
    | none => exact Nat.zero_le _
    | some x => exact hb x (List.mem_of_getElem? e)
  have lA : (PS a).length ≤ 1000000 := by rw [ps_len]; omega
  have lB : (PS b).length ≤ 1000000 := by rw [ps_len]; omega
  split at hd
  · cases hd
  rename_i hnot
  refine st_if (c := decide (mc < (((PS b).length : Int) - ((PS a).length : Int)) * 2)) S (tr_cmp cm_gt_int (ex_bin (bi_mul (mul_two_r _)) (ex_bin bi_sub (ex_len (ex_blt gl_len bb_len rfl) (ex_name (by walk_at "mem")) lB) (ex_len (ex_blt gl_len bb_len rfl) (ex_name (by walk_at "mem")) lA)) (ex_glob gl_MOVE_COST (fun g => .int 2 599) rfl)) (ex_name (by walk_at "mem"))) (fun hc s₁ g₁ S₁ => ?_) fun hc s₁ g₁ S₁ => st_nil ?_
  · exfalso; rw [ps_len, ps_len] at hc; exact hnot (by simpa using hc)
  show wpAny _ _ _ _ _ _
  unfold dp at hd
  split at hd
  rotate_left
  · cases hd
  rename_i hall
  have hmin : ∀ j, j < b.length → ¬ mc < (iS a b j a.length).mn := fun j hj => by
    have := List.all_eq_true.mp hall j (List.mem_range.mpr hj)
    have h2 : (!decide (mc < (iS a b j a.length).mn)) = true := this
    exact of_decide_eq_false (by simpa using h2)
  have hd' : d = (outerAt (cst a b) a.length b.length).2 := by cases hd; rfl
  refine st_assignL S₁ (exL_listRange (a := 2) (b := 2 * (((PS a).length : Int) + 1)) (c := 2) (n := a.length) hh (ex_blt gl_list bb_list rfl) (exs_cons (ex_callT (ps := [.int 2, .int (2 * (((PS a).length : Int) + 1)), .int 2]) (ex_blt gl_range bb_range rfl) (exs_cons (ex_glob gl_MOVE_COST (fun g => .int 2 599) rfl) (exs_cons (ex_bin (bi_mul (mul_two_l _)) (ex_glob gl_MOVE_COST (fun g => .int 2 599) rfl) (ex_bin bi_add (ex_len (ex_blt gl_len bb_len rfl) (ex_name (by walk_at "mem")) lA) ex_int)) (exs_cons (ex_glob gl_MOVE_COST (fun g => .int 2 599) rfl) exs_nil))) (fn_range3 (by decide) (by unfold Builtin.divisionGoesByPylong; rfl))) exs_nil) (by rw [ps_len]; exact rsmall_two _ (by omega)) (by rw [ps_len]; exact rsize_two _) (by omega)) (by rfl) fun ar s₂ g₂ S₂ => ?_
  refine st_assign S₂ ex_int rfl (by rfl) fun s₃ g₃ S₃ => ?_
  refine st_for PV.int (xs := rInts 0 1 b.length) (oV a b mc ar) S₃ (ex_callT (ex_blt gl_range bb_range rfl) (exs_cons (ex_len (ex_blt gl_len bb_len rfl) (ex_name (by walk_at "mem")) lB) exs_nil) fn_range1) (itrF_range (n := b.length) hh (by rw [ps_len]; exact rsmall_one _ (by omega)) (by rw [ps_len]; exact rsize_one _)) (by rfl)
    ?_ (fun j j₀ I ob gp' s₄ g₄ E₄ hj hgp S₄ => ?_) fun s₄ g₄ E₄ S₄ => ?_
  · show ∀ q ∈ oW a b mc ar (rInts 2 2 a.length) 0, _
    unfold oW
    walk_at "sub"
  · obtain ⟨hjl, rfl⟩ := rInts_get hj
    have e0 : (0 : Int) + (j : Int) * 1 = j := by omega
    rw [e0] at S₄
    unfold oV oW at S₄
    refine st_assign S₄ (ex_sub (p := .list (PS b)) (l := PS b) (i := (j : Int)) (q := .str (b.getD j Str.empty)) (ex_name (by walk_at "mem")) rfl (ex_name (by walk_at "mem")) (by omega) (by omega) (by rw [Int.toNat_natCast]; exact ps_get hjl)) rfl (by rfl) fun s₅ g₅ S₅ => ?_
    refine st_assign2 S₅ (ex_bin (bi_mul (mul_two_r (j : Int))) (ex_name (by walk_at "mem")) (ex_glob gl_MOVE_COST (fun g => .int 2 599) rfl)) rfl (by rfl) (by rfl) fun s₆ g₆ S₆ => ?_
    refine st_assign S₆ ex_int rfl (by rfl) fun s₇ g₇ S₇ => ?_
    refine st_for PV.int (xs := rInts 0 1 a.length) (iV a b mc ar j) S₇ (ex_callT (ex_blt gl_range bb_range rfl) (exs_cons (ex_len (ex_blt gl_len bb_len rfl) (ex_name (by walk_at "mem")) lA) exs_nil) fn_range1) (itrF_range (n := a.length) hh (by rw [ps_len]; exact rsmall_one _ (by omega)) (by rw [ps_len]; exact rsize_one _)) (by rfl)
      ?_ (fun i i₀ I' ob' gp'' s₈ g₈ E₈ hi hgp' S₈ => ?_) fun s₈ g₈ E₈ S₈ => ?_
    · show ∀ q ∈ iW a b mc ar j (outerAt (cst a b) a.length j).1 ((j : Int) * 2) ((j : Int) * 2) 9223372036854775807, _
      unfold iW
      walk_at "sub"
    · obtain ⟨hil, rfl⟩ := rInts_get hi
      have e1 : (0 : Int) + (i : Int) * 1 = i := by omega
      rw [e1] at S₈
      unfold iV iW at S₈
      have rl := iS_len a b j i
      refine st_assign S₈ (ex_bin bi_add (ex_name (by walk_at "mem")) (ex_callF (p := .int (cst a b j i)) (ex_glob gl_substitution_cost (fun g => .val _) rfl) (exs_cons (ex_name (by walk_at "mem")) (exs_cons (ex_sub (p := .list (PS a)) (l := PS a) (i := (i : Int)) (q := .str (a.getD i Str.empty)) (ex_name (by walk_at "mem")) rfl (ex_name (by walk_at "mem")) (by omega) (by omega) (by rw [Int.toNat_natCast]; exact ps_get hil)) exs_nil)) (fn_subst hA (b.getD j Str.empty) (a.getD i Str.empty) (gB j) (gA i)) (by rfl) rfl)) rfl (by rfl) fun s₉ g₉ S₉ => ?_
      refine st_assign S₉ (ex_sub (p := .mut ar (PI (iS a b j i).row)) (l := PI (iS a b j i).row) (i := (i : Int)) (q := .int ((iS a b j i).row.getD i 0)) (ex_name (by walk_at "mem")) rfl (ex_name (by walk_at "mem")) (by omega) (by omega) (by rw [Int.toNat_natCast]; exact pi_get (by omega))) rfl (by rfl) fun sa ga Sa => ?_
      refine st_assign Sa (p := .int (mn2 (iS a b j i).r ((iS a b j i).row.getD i 0) + 2)) (ex_bin bi_add (ex_callB (ex_blt gl_min bb_min rfl) (exs_cons (ex_name (by walk_at "mem")) (exs_cons (ex_name (by walk_at "mem")) exs_nil)) (fn_min hh)) (ex_glob gl_MOVE_COST (fun g => .int 2 599) rfl)) rfl (by rfl) fun sb gb Sb => ?_
      refine st_assign Sb (p := .int (iS a b j (i + 1)).r) (Ex.eq (ex_callB (ex_blt gl_min bb_min rfl) (exs_cons (ex_name (p := .int (mn2 (iS a b j i).r ((iS a b j i).row.getD i 0) + 2)) (by walk_at "mem")) (exs_cons (ex_name (p := .int ((iS a b j i).d + cst a b j i)) (by walk_at "mem")) exs_nil)) (fn_min hh)) (by rfl)) rfl (by rfl) fun sc gc Sc => ?_
      refine st_set Sc (a := ar) (l := PI (iS a b j i).row) (i := (i : Int)) (by walk_at "mem") ?sole (ex_name (by walk_at "mem")) rfl (ex_name (by walk_at "mem")) (by omega) (by rw [pi_len, rl]; omega) (by rw [pi_len, rl]; omega) fun sd gd Sd => ?_
      case sole => walk_at "sole"
      rw [Int.toNat_natCast, pi_set] at Sd
      refine st_if (c := decide ((iS a b j (i + 1)).r < (iS a b j i).mn)) Sd (tr_cmp cm_lt_int (ex_name (by walk_at "mem")) (ex_name (by walk_at "mem"))) (fun hc s₁ g₁ S₁ => ?_) fun hc s₁ g₁ S₁ => ?_
      · refine st_assign S₁ (ex_name (p := .int (iS a b j (i + 1)).r) (by walk_at "mem")) rfl (by rfl) fun sf gf Sf => st_nil (st_nil ⟨gf, Sf.less ?_⟩)
        have e2 : (iS a b j (i + 1)).mn = (iS a b j (i + 1)).r := by
          show (if _ < _ then _ else _) = _
          exact if_pos (of_decide_eq_true hc)
        show ∀ q ∈ iW a b mc ar j ((iS a b j i).row.set i (iS a b j (i + 1)).r) ((iS a b j i).row.getD i 0) (iS a b j (i + 1)).r (iS a b j (i + 1)).mn, _
        rw [e2]
        unfold iW
        walk_at "sub"
      · refine st_nil (st_nil ⟨g₁, S₁.less ?_⟩)
        have e2 : (iS a b j (i + 1)).mn = (iS a b j i).mn := by
          show (if _ < _ then _ else _) = _
          exact if_neg (of_decide_eq_false hc)
        show ∀ q ∈ iW a b mc ar j ((iS a b j i).row.set i (iS a b j (i + 1)).r) ((iS a b j i).row.getD i 0) (iS a b j (i + 1)).r (iS a b j (i + 1)).mn, _
        rw [e2]
        unfold iW
        walk_at "sub"
    · refine st_nil ?_
      show wpAny _ _ _ _ _ _
      rw [rInts_length] at S₈
      unfold iV iW at S₈
      refine st_if (c := decide (mc < (iS a b j a.length).mn)) S₈ (tr_cmp cm_gt_int (ex_name (by walk_at "mem")) (ex_name (by walk_at "mem"))) (fun hc s₁ g₁ S₁ => ?_) fun hc s₁ g₁ S₁ => ?_
      · exact absurd (of_decide_eq_true hc) (hmin j hjl)
      · refine st_nil (st_nil ⟨g₁, S₁.less ?_⟩)
        show ∀ q ∈ oW a b mc ar (iS a b j a.length).row (iS a b j a.length).r, _
        unfold oW
        walk_at "sub"
  · refine st_nil ?_
    show wpAny _ _ _ _ _ _
    rw [rInts_length] at S₄
    unfold oV oW at S₄
    exact st_return (p := .int d) S₄ (Ex.eq (ex_name (p := .int (outerAt (cst a b) a.length b.length).2) (by walk_at "mem")) (by rw [hd'])) rfl

theorem ps_drop (l : List Str) (i : Nat) : (PS l).drop i = PS (l.drop i) := by simp [PS, List.map_drop]
theorem ps_take (l : List Str) (i : Nat) : (PS l).take i = PS (l.take i) := by simp [PS, List.map_take]
theorem ps_empty (l : List Str) : (PS l).isEmpty = l.isEmpty := by cases l <;> rfl
def W3 (a b : List Str) (mc : Int) : Vars := [(Str.ofString "a", .list (PS a)), (Str.ofString "b", .list (PS b)), (Str.ofString "max_cost", .int mc)]
def W4 (a b : List Str) (mc : Int) (x : Str) (i : Int) : Vars := [(Str.ofString "a", .list (PS a)), (Str.ofString "b", .list (PS b)), (Str.ofString "max_cost", .int mc), (x, .int i)]

set_option maxHeartbeats 4000000 in
/-- from the cut lists on -/
theorem lev_cut {k : Nat} {L : Addr} {a b : List Str} {mc d : Int} {s₀ s : Shared} {g₀ g : Gm} {E : Value → Shared → Prop} (hA : AOk (k + 1) A) (hal : a.length ≤ 1000) (hbl : b.length ≤ 1000) (ha : ∀ x ∈ a, x.length ≤ 1000) (hb : ∀ x ∈ b, x.length ≤ 1000)
    (hd : levCut a b mc = some d)
    (S : SInv w s₀ g₀ (envLev L) [] g₀ s g (W3 a b mc)) :
    wpAny (MM w) A (execs ((sBody (topStmt 16)).drop 9) (envLev L)) (RetP s₀ g₀ (.int d)) E s := by
  have hh := hA.1
  unfold W3 at S
  unfold levCut at hd
  have lA : (PS a).length ≤ 1000000 := by rw [ps_len]; omega
  have lB : (PS b).length ≤ 1000000 := by rw [ps_len]; omega
  refine st_if (c := (!(!a.isEmpty)) || ((!(!b.isEmpty)) || false)) S (tr_or (ot_cons (tr_not (tr_val (ex_name (p := .list (PS a)) (by walk_at "mem")) (by rw [← ps_empty]; exact ty_list rfl lA))) fun _ => ot_cons (tr_not (tr_val (ex_name (p := .list (PS b)) (by walk_at "mem")) (by rw [← ps_empty]; exact ty_list rfl lB))) fun _ => ot_nil)) (fun hc s₁ g₁ S₁ => ?_) fun hc s₁ g₁ S₁ => st_nil ?_
  · have hc' : a = [] ∨ b = [] := by simpa using hc
    rw [if_pos hc'] at hd
    cases hd
    exact st_return S₁ (Ex.eq (ex_bin (bi_mul (mul_two_l _)) (ex_glob gl_MOVE_COST (fun g => .int 2 599) rfl) (ex_bin bi_add (ex_len (ex_blt gl_len bb_len rfl) (ex_name (p := .list (PS a)) (by walk_at "mem")) lA) (ex_len (ex_blt gl_len bb_len rfl) (ex_name (p := .list (PS b)) (by walk_at "mem")) lB))) (by rw [ps_len, ps_len])) rfl
  have hc' : ¬ (a = [] ∨ b = []) := by simpa using hc
  rw [if_neg hc'] at hd
  split at hd
  · cases hd
  rename_i h40
  show wpAny _ _ _ _ _ _
  refine st_if (c := decide ((40 : Int) < ((PS a).length : Int)) || (decide ((40 : Int) < ((PS b).length : Int)) || false)) S₁ (tr_or (ot_cons (tr_cmp cm_gt_int (ex_len (ex_blt gl_len bb_len rfl) (ex_name (p := .list (PS a)) (by walk_at "mem")) lA) (ex_glob gl_MAX_STRING_SIZE (fun g => .int 40 597) rfl)) fun _ => ot_cons (tr_cmp cm_gt_int (ex_len (ex_blt gl_len bb_len rfl) (ex_name (p := .list (PS b)) (by walk_at "mem")) lB) (ex_glob gl_MAX_STRING_SIZE (fun g => .int 40 597) rfl)) fun _ => ot_nil)) (fun hc s₂ g₂ S₂ => ?_) fun hc s₂ g₂ S₂ => st_nil ?_
  · exfalso
    rw [ps_len, ps_len] at hc
    exact h40 (by simp at hc; omega)
  show wpAny _ _ _ _ _ _
  refine st_if (c := decide (((PS b).length : Int) < ((PS a).length : Int))) S₂ (tr_cmp cm_lt_int (ex_len (ex_blt gl_len bb_len rfl) (ex_name (p := .list (PS b)) (by walk_at "mem")) lB) (ex_len (ex_blt gl_len bb_len rfl) (ex_name (p := .list (PS a)) (by walk_at "mem")) lA)) (fun hc s₃ g₃ S₃ => ?_) fun hc s₃ g₃ S₃ => st_nil ?_
  · rw [ps_len, ps_len] at hc
    have hlt : b.length < a.length := by have := of_decide_eq_true hc; omega
    rw [if_pos hlt] at hd
    refine st_swap hh S₃ (x := Str.ofString "a") (y := Str.ofString "b") (p := .list (PS b)) (q := .list (PS a)) (exs_cons (ex_name (by walk_at "mem")) (exs_cons (ex_name (by walk_at "mem")) exs_nil)) (by rfl) (by rfl) rfl (by rfl) (by rfl) fun s₄ g₄ S₄ => st_nil ?_
    exact lev_tail hA (by omega) (by omega) hb ha hd (S₄.less (by walk_at "sub"))
  · rw [ps_len, ps_len] at hc
    have hlt : ¬ b.length < a.length := by have := of_decide_eq_false hc; omega
    rw [if_neg hlt] at hd
    exact lev_tail hA (by omega) (by omega) ha hb hd S₃

theorem pt_post {env : Env} {V : Vars} {e : Expr} {n : Nat} {pos p2 : Pos} {kk : Nat} (h : Ex w A env V e (.int (-(n : Int)))) : Pt w A env V (some (.BoolOp .Or [e, .Constant .none kk p2] pos)) (if n = 0 then none else some (-(n : Int))) := by
  by_cases q : n = 0
  · subst q
    rw [if_pos rfl]
    exact pt_no (ex_or (q := .none) h ty_int (fun c => by cases c) fun _ => ex_none)
  · rw [if_neg q]
    exact pt_int (ex_or (q := .int (-(n : Int))) h ty_int (fun _ => rfl) fun c => by exfalso; simp at c; omega)

theorem ps_nonempty {l : List PV} (h : (!l.isEmpty) = true) : 0 < l.length := by
  cases l with
  | nil => cases h
  | cons _ _ => exact Nat.succ_pos _

def tstOf : Option Stmt → Expr
  | some (.While t _ _ _) => t
  | _ => .Constant .none 0 ⟨0, 0, 0, 0⟩
set_option maxHeartbeats 4000000 in
theorem fn_lev {k : Nat} (hA : AOk (k + 2) A) (a b : List Str) (mc d : Int) (hal : a.length ≤ 1000) (hbl : b.length ≤ 1000) (ha : ∀ x ∈ a, x.length ≤ 1000) (hb : ∀ x ∈ b, x.length ≤ 1000) (hd : lev a b mc = some d) :
    Fn w A (.ref 208) [.list (PS a), .list (PS b), .int mc] (.int d) := by
  refine fn_intro (xs := [Str.ofString "a", Str.ofString "b", Str.ofString "max_cost"]) hA (by rfl) rfl rfl rfl (by rfl) ?bind rfl (by decide) (by rfl) rfl rfl rfl rfl rfl rfl ?_
  case bind => intro vs h; match vs, h with | [v, u, z], _ => rfl
  intro L s₀ g₀ s g E S hA'
  have hh := hA'.1
  replace hA' : AOk (k + 1) (A.deeper (envLev L)) := hA'
  replace S : SInv w s₀ g₀ (envLev L) [] g₀ s g [(Str.ofString "a", .list (PS a)), (Str.ofString "b", .list (PS b)), (Str.ofString "max_cost", .int mc)] := S
  have hu : (A.deeper (envLev L)).units < cLine := by have := hA'.2.2; show _ < 9900; omega
  unfold lev at hd
  refine st_if (c := decide (a = b)) S (tr_cmp (cm_eq_strs (p := .list (PS a)) (q := .list (PS b)) rfl rfl hu) (ex_name (by walk_at "mem")) (ex_name (by walk_at "mem"))) (fun hc s₁ g₁ S₁ => ?_) fun hc s₁ g₁ S₁ => st_nil ?_
  · rw [if_pos (of_decide_eq_true hc)] at hd
    cases hd
    exact st_return S₁ ex_int rfl
  rw [if_neg (of_decide_eq_false hc)] at hd
  show wpAny _ _ _ _ _ _
  have lA : (PS a).length ≤ 1000000 := by rw [ps_len]; omega
  have lB : (PS b).length ≤ 1000000 := by rw [ps_len]; omega
  refine st_assign S₁ ex_int rfl (by rfl) fun s₂ g₂ S₂ => ?_
  have ask : ∀ i : Nat, Tr w (A.deeper (envLev L)) (envLev L) (W4 a b mc (Str.ofString "pre") (i : Int)) (tstOf (sBody (topStmt 16))[2]?) (askPre a b i) := fun i => by
    unfold W4 askPre
    have s1 : ∀ l : List Str, PV.list (sliceL (PS l) (some (i : Int)) none) = .list (PS (l.drop i)) := fun l => by rw [slice_from, ps_drop]
    have l1 : ∀ l : List Str, l.length ≤ 1000 → (PS (l.drop i)).length ≤ 1000000 := fun l hl => by rw [ps_len, List.length_drop]; omega
    refine tr_and (at_cons (by rw [← ps_empty]; exact tr_val (Ex.eq (ex_slice (p := .list (PS a)) (ex_name (by walk_at "mem")) rfl (pt_int (ex_name (p := .int (i : Int)) (by walk_at "mem"))) pt_none lA) (s1 a)) (ty_list rfl (l1 a hal))) fun c1 => at_cons (by rw [← ps_empty]; exact tr_val (Ex.eq (ex_slice (p := .list (PS b)) (ex_name (by walk_at "mem")) rfl (pt_int (ex_name (p := .int (i : Int)) (by walk_at "mem"))) pt_none lB) (s1 b)) (ty_list rfl (l1 b hbl))) fun c2 => at_cons ?_ fun _ => at_nil)
    rw [isEmpty_drop] at c1 c2
    have i1 : i < a.length := by simpa using c1
    have i2 : i < b.length := by simpa using c2
    exact tr_cmp cm_eq_str (ex_sub (p := .list (PS a)) (l := PS a) (i := (i : Int)) (q := .str (a.getD i Str.empty)) (ex_name (by walk_at "mem")) rfl (ex_name (by walk_at "mem")) (by omega) (by omega) (by rw [Int.toNat_natCast]; exact ps_get i1))
      (ex_sub (p := .list (PS b)) (l := PS b) (i := (i : Int)) (q := .str (b.getD i Str.empty)) (ex_name (by walk_at "mem")) rfl (ex_name (by walk_at "mem")) (by omega) (by omega) (by rw [Int.toNat_natCast]; exact ps_get i2))
  refine st_while (fun i => W4 a b mc (Str.ofString "pre") (i : Int)) (pref a b) S₂ ?_ (fun i hi => (ask i).eq (askPre_lt hi)) ((ask _).eq (askPre_stop a b)) (fun i s' g' E' hi S' => ?_) fun s₃ g₃ S₃ => ?_
  · show ∀ q ∈ W4 a b mc (Str.ofString "pre") 0, _
    unfold W4
    walk_at "sub"
  · unfold W4 at S'
    refine st_aug (p := .int (i : Int)) (q := .int 1) S' (by walk_at "mem") rfl ex_int rfl ip_add (by rfl) fun s₄ g₄ S₄ => st_nil ⟨g₄, S₄.less ?_⟩
    show ∀ q ∈ W4 a b mc (Str.ofString "pre") ((i + 1 : Nat) : Int), _
    rw [show ((i + 1 : Nat) : Int) = (i : Int) + 1 by omega]
    unfold W4
    walk_at "sub"
  unfold W4 at S₃
  have s1 : ∀ l : List Str, PV.list (sliceL (PS l) (some ((pref a b : Nat) : Int)) none) = .list (PS (l.drop (pref a b))) := fun l => by rw [slice_from, ps_drop]
  refine st_assign S₃ (Ex.eq (ex_slice (p := .list (PS a)) (ex_name (by walk_at "mem")) rfl (pt_int (ex_name (p := .int (pref a b : Nat)) (by walk_at "mem"))) pt_none lA) (s1 a)) rfl (by rfl) fun s₄ g₄ S₄ => ?_
  refine st_assign S₄ (Ex.eq (ex_slice (p := .list (PS b)) (ex_name (by walk_at "mem")) rfl (pt_int (ex_name (p := .int (pref a b : Nat)) (by walk_at "mem"))) pt_none lB) (s1 b)) rfl (by rfl) fun s₅ g₅ S₅ => ?_
  refine st_assign S₅ ex_int rfl (by rfl) fun s₆ g₆ S₆ => ?_
  have mA : ∀ x ∈ a.drop (pref a b), x.length ≤ 1000 := fun x hx => ha x (List.mem_of_mem_drop hx)
  have mB : ∀ x ∈ b.drop (pref a b), x.length ≤ 1000 := fun x hx => hb x (List.mem_of_mem_drop hx)
  have nA : (a.drop (pref a b)).length ≤ 1000 := by rw [List.length_drop]; omega
  have nB : (b.drop (pref a b)).length ≤ 1000 := by rw [List.length_drop]; omega
  unfold trimA trimB at hd
  generalize a.drop (pref a b) = a' at *
  generalize b.drop (pref a b) = b' at *
  have lA' : (PS a').length ≤ 1000000 := by rw [ps_len]; omega
  have lB' : (PS b').length ≤ 1000000 := by rw [ps_len]; omega
  have s2 : ∀ (l : List Str) (n : Nat), PV.list (sliceL (PS l) none (if n = 0 then none else some (-(n : Int)))) = .list (PS (l.take (l.length - n))) := fun l n => by rw [slice_upto, ps_len, ps_take]
  have l2 : ∀ (l : List Str) (n : Nat), l.length ≤ 1000 → (PS (l.take (l.length - n))).length ≤ 1000000 := fun l n hl => by rw [ps_len, List.length_take]; omega
  have ask2 : ∀ i : Nat, Tr w (A.deeper (envLev L)) (envLev L) (W4 a' b' mc (Str.ofString "post") (-(i : Int))) (tstOf (sBody (topStmt 16))[6]?) (askSuf a' b' i) := fun i => by
    unfold W4 askSuf
    refine tr_and (at_cons (by rw [← ps_empty]; exact tr_val (Ex.eq (ex_slice (p := .list (PS a')) (ex_name (by walk_at "mem")) rfl pt_none (pt_post (ex_name (by walk_at "mem"))) lA') (s2 a' i)) (ty_list rfl (l2 a' i nA))) fun c1 => at_cons (by rw [← ps_empty]; exact tr_val (Ex.eq (ex_slice (p := .list (PS b')) (ex_name (by walk_at "mem")) rfl pt_none (pt_post (ex_name (by walk_at "mem"))) lB') (s2 b' i)) (ty_list rfl (l2 b' i nB))) fun c2 => at_cons ?_ fun _ => at_nil)
    rw [isEmpty_take] at c1 c2
    have i1 : i < a'.length := by have : ¬ (a'.length = 0 ∨ a'.length - i = 0) := by simpa using c1
                                  omega
    have i2 : i < b'.length := by have : ¬ (b'.length = 0 ∨ b'.length - i = 0) := by simpa using c2
                                  omega
    refine tr_cmp cm_eq_str (ex_subneg (p := .list (PS a')) (l := PS a') (i := -(i : Int) - 1) (q := .str (a'.getD (a'.length - 1 - i) Str.empty)) (ex_name (by walk_at "mem")) rfl (ex_bin bi_sub (ex_name (by walk_at "mem")) ex_int) (by omega) (by omega) (by rw [ps_len]; omega) ?_)
      (ex_subneg (p := .list (PS b')) (l := PS b') (i := -(i : Int) - 1) (q := .str (b'.getD (b'.length - 1 - i) Str.empty)) (ex_name (by walk_at "mem")) rfl (ex_bin bi_sub (ex_name (by walk_at "mem")) ex_int) (by omega) (by omega) (by rw [ps_len]; omega) ?_)
    · rw [ps_len, show (-(i : Int) - 1 + (a'.length : Int)).toNat = a'.length - 1 - i by omega]; exact ps_get (by omega)
    · rw [ps_len, show (-(i : Int) - 1 + (b'.length : Int)).toNat = b'.length - 1 - i by omega]; exact ps_get (by omega)
  refine st_while (fun i => W4 a' b' mc (Str.ofString "post") (-(i : Int))) (suf a' b') S₆ ?_ (fun i hi => (ask2 i).eq (askSuf_lt hi)) ((ask2 _).eq (askSuf_stop a' b')) (fun i s' g' E' hi S' => ?_) fun s₇ g₇ S₇ => ?_
  · show ∀ q ∈ W4 a' b' mc (Str.ofString "post") 0, _
    unfold W4
    walk_at "sub"
  · unfold W4 at S'
    refine st_aug (p := .int (-(i : Int))) (q := .int 1) S' (by walk_at "mem") rfl ex_int rfl ip_sub (by rfl) fun s₄ g₄ S₄ => st_nil ⟨g₄, S₄.less ?_⟩
    show ∀ q ∈ W4 a' b' mc (Str.ofString "post") (-((i + 1 : Nat) : Int)), _
    rw [show (-((i + 1 : Nat) : Int)) = -(i : Int) - 1 by omega]
    unfold W4
    walk_at "sub"
  unfold W4 at S₇
  refine st_assign S₇ (Ex.eq (ex_slice (p := .list (PS a')) (ex_name (by walk_at "mem")) rfl pt_none (pt_post (ex_name (by walk_at "mem"))) lA') (s2 a' (suf a' b'))) rfl (by rfl) fun s₈ g₈ S₈ => ?_
  refine st_assign S₈ (Ex.eq (ex_slice (p := .list (PS b')) (ex_name (by walk_at "mem")) rfl pt_none (pt_post (ex_name (by walk_at "mem"))) lB') (s2 b' (suf a' b'))) rfl (by rfl) fun s₉ g₉ S₉ => ?_
  refine lev_cut hA' ?_ ?_ ?_ ?_ hd (S₉.less ?_)
  · rw [List.length_take]; omega
  · rw [List.length_take]; omega
  · exact fun x hx => mA x (List.mem_of_mem_take hx)
  · exact fun x hx => mB x (List.mem_of_mem_take hx)
  · unfold W3; walk_at "sub"
end
end Mine
end
noncomputable section
open PySem PySem.W PySem.Calls PyProof.Rows
namespace Mine

local macro_rules | `(tactic| walk_at "mem") => `(tactic| first
  | with_reducible exact List.mem_cons_self
  | ((with_reducible refine List.mem_cons_of_mem _ ?_); walk_at "mem")
  | ((with_reducible refine mem_cap ?hm ?hc); (case hc => rfl); (case hm => walk_at "mem"))
  | with_reducible exact mem_upd_self
  | ((with_reducible refine mem_upd ?hm ?hc); (case hc => rfl); (case hm => walk_at "mem")))
local macro_rules | `(tactic| walk_at "sub") => `(tactic| first
  | with_reducible exact sub_nil
  | ((with_reducible refine sub_cons ?hm ?hc); (case hc => walk_at "sub"); (case hm => walk_at "mem")))
local macro_rules | `(tactic| walk_at "sole") => `(tactic| first
  | with_reducible exact sole_nil
  | ((with_reducible refine sole_upd ?hm ?hp); (case hp => (first | (intro _ _ e; cases e; done) | exact fun _ _ _ => .inl rfl)); (case hm => walk_at "sole"))
  | ((with_reducible refine sole_cons ?hm ?hp); (case hp => (first | (intro _ _ e; cases e; done) | exact fun _ _ _ => .inl rfl)); (case hm => walk_at "sole")))

def hexS (i : Int) : Str := baseText "0x" 16 i
def flagL : List (Int × Value) := [(1, .str (Str.ofString "OPTIMIZED") 555), (2, .str (Str.ofString "NEWLOCALS") 557), (4, .str (Str.ofString "VARARGS") 559), (8, .str (Str.ofString "VARKEYWORDS") 561), (16, .str (Str.ofString "NESTED") 563), (32, .str (Str.ofString "GENERATOR") 565), (64, .str (Str.ofString "NOFREE") 567), (128, .str (Str.ofString "COROUTINE") 569), (256, .str (Str.ofString "ITERABLE_COROUTINE") 571), (512, .str (Str.ofString "ASYNC_GENERATOR") 573)]
def vStr : Value → Str
  | .str x _ => x
  | _ => Str.empty
def flagD : List (PyData × PyData) := flagL.map fun p => (.int p.1, .str (vStr p.2))
def isStrD : PyData → Bool
  | .str _ => true
  | _ => false
def strOfD : PyData → Str
  | .str x => x
  | _ => Str.empty
theorem isStrD_eq {d : PyData} (h : isStrD d = true) : d = .str (strOfD d) := by cases d <;> first | rfl | cases h
def flg (i : Nat) : Int := 1 * 2 ^ ((i : Int)).toNat
def nameD (i : Int) : PyData := (PySem.Spec.lookup (.int i) flagD).getD (.str (hexS i))
def nmOf (i : Nat) : Str := strOfD (nameD (flg i))
theorem name_isStr : ∀ i, i < 32 → isStrD (nameD (flg i)) = true := by decide +kernel
theorem hex_len : ∀ i, i < 32 → (hexS (flg i)).length ≤ 100 := by decide +kernel
theorem nm_len : ∀ i, i < 32 → (nmOf i).length ≤ 100 := by decide +kernel

section
variable {w : World} {A : Around} {env : Env} {V : Vars}

theorem tab187 {h : Heap} (B : Base w h) (prog : Program) : IntTab prog w h 187 flagD := by
  refine TabAt.ofObj (kvs := flagL) (by decide) (B.k 187 _ (by rfl)) ⟨_, _, ⟨rfl, rfl, rfl⟩, rfl, ?_, ?_, by decide⟩ ?_
  · intro e he
    simp only [List.mem_toArray, List.mem_cons, List.not_mem_nil, or_false] at he
    rcases he with rfl | rfl | rfl | rfl | rfl | rfl | rfl | rfl | rfl | rfl
    · exact ⟨1, rfl, by with_unfolding_all rfl⟩
    · exact ⟨2, rfl, by with_unfolding_all rfl⟩
    · exact ⟨4, rfl, by with_unfolding_all rfl⟩
    · exact ⟨8, rfl, by with_unfolding_all rfl⟩
    · exact ⟨16, rfl, by with_unfolding_all rfl⟩
    · exact ⟨32, rfl, by with_unfolding_all rfl⟩
    · exact ⟨64, rfl, by with_unfolding_all rfl⟩
    · exact ⟨128, rfl, by with_unfolding_all rfl⟩
    · exact ⟨256, rfl, by with_unfolding_all rfl⟩
    · exact ⟨512, rfl, by with_unfolding_all rfl⟩
  · repeat (first | exact .nil | refine .cons rfl rfl ?_)
  · repeat (first | exact .nil | refine .cons (PyProof.V.Flat.str _ _) ?_)

theorem fn_hex {i : Int} (h : (hexS i).length ≤ 100) : Fn w A (.builtin "hex") [.int i] (.str (hexS i)) := by
  intro s g vs E le B R
  cases R with
  | cons hr r => cases r; cases hr; exact PySem.P.hex_of_int ⟨g, Grow.toks le _, .str _ _⟩ (by rw [sizeLine_eq]; exact Nat.le_trans h (by omega))

theorem ex_flag {e f : Expr} {np apos pos : Pos} {i : Int} (hk : env.kindOf (Str.ofString "COMPILER_FLAG_NAMES") = some .globalImplicit) (he : Exs w A env V pos [e, f] [.int i, .str (hexS i)]) (hi : isStrD (nameD i) = true)
    (h3 : (apos.endLine == pos.line) = true := by rfl) (h4 : backTo pos (starEach [e, f] env) = [(false, eval e env), (false, eval f env)] := by rfl)
    (h1 : attributeBase (.Name (Str.ofString "COMPILER_FLAG_NAMES") np) (Str.ofString "get") env (eval (.Name (Str.ofString "COMPILER_FLAG_NAMES") np) env) = eval (.Name (Str.ofString "COMPILER_FLAG_NAMES") np) env := by rfl) :
    Ex w A env V (.Call (.Attribute (.Name (Str.ofString "COMPILER_FLAG_NAMES") np) (Str.ofString "get") apos) [e, f] [] pos) (.str (strOfD (nameD i))) := by
  intro s g E I
  refine wpAny_Call_method2_late h1 h3 h4 ((ex_glob (p := .val (.ref 187)) gl_COMPILER_FLAG_NAMES (fun g => .val _) hk).run I fun v s₁ g₁ G₁ R₁ I₁ => ?_)
  cases (show Rep g₁ v (.val _) from R₁)
  have T := tab187 I₁.base PySem.Challenge.pw_rl0113_01
  have o187 := I₁.base.k 187 _ (by rfl)
  refine ⟨"dict", "dict.get", PySem.F.plainAttrs_dict, PySem.F.slot_dict_get, PySem.F.type_dict_get, ⟨_, o187, rfl⟩, (fun a e => by cases e; exact ⟨_, o187, rfl⟩), callWith_builtin (by rfl) (evalArgs_plain ?_)⟩
  rw [← h4]
  refine he.run I₁ fun vs s₂ g₂ G₂ R₂ I₂ => ?_
  cases R₂ with
  | cons r1 rs =>
    cases rs with
    | cons r2 rs =>
      cases rs; cases r1; cases r2
      refine call_get2_intTab (tab187 I₂.base _) (PyProof.V.Flat.str _ _) fun v hv => ?_
      rw [show ((PySem.Spec.lookup (.int i) flagD).getD (.str (hexS i))) = nameD i from rfl, isStrD_eq hi] at hv
      cases hv s₂.heap
      exact ⟨g₂, (G₁.trans G₂).trans (Grow.toks I₂.le _), (Rep.str _ _)⟩

structure PF where
  fl : Int
  nm : List Str
  fin : Bool
def pfStep (i : Nat) (s : PF) : PF := if s.fin = true then s else if (Builtin.bitAnd s.fl (flg i) != 0) = true then ⟨Builtin.bitXor s.fl (flg i), s.nm ++ [nmOf i], Builtin.bitXor s.fl (flg i) == 0⟩ else s
noncomputable def pfAt (n : Int) : Nat → PF
  | 0 => ⟨n, [], false⟩
  | i + 1 => pfStep i (pfAt n i)
def pfNames (n : Int) : List Str := if (pfAt n 32).fin = true then (pfAt n 32).nm else (pfAt n 32).nm ++ [hexS (pfAt n 32).fl]
def pf (n : Int) : Str := Txt.join (Str.ofString ", ") (pfNames n)
theorem pf_stays {n : Int} {i : Nat} (h : (pfAt n i).fin = true) : ∀ d, pfAt n (i + d) = pfAt n i
  | 0 => rfl
  | d + 1 => by show pfStep (i + d) (pfAt n (i + d)) = _; rw [pf_stays h d]; unfold pfStep; rw [if_pos h]
theorem pf_len (n : Int) : ∀ i, (pfAt n i).nm.length ≤ i
  | 0 => Nat.zero_le _
  | i + 1 => by
    have := pf_len n i
    show (pfStep i (pfAt n i)).nm.length ≤ _
    unfold pfStep
    split
    · omega
    · split
      · simp; omega
      · omega

def pW (n : Int) (fl : Int) (a : Addr) (nm : List Str) : Vars := [(Str.ofString "flags", .int fl), (Str.ofString "names", .mut a (PS nm))]

set_option maxHeartbeats 4000000 in
theorem fn_flags {k : Nat} (hA : AOk (k + 1) A) (n : Int) (hx : (hexS (pfAt n 32).fl).length ≤ 100) (hs : ((pfNames n).map (·.length)).sum + (pfNames n).length ≤ 1000000) : Fn w A (.ref 194) [.int n] (.str (pf n)) := by
  refine fn_intro (xs := [Str.ofString "flags"]) hA (by rfl) rfl rfl rfl (by rfl) ?bind rfl (by decide) (by rfl) rfl rfl rfl rfl rfl rfl ?_
  case bind => intro vs h; match vs, h with | [v], _ => rfl
  intro L s₀ g₀ s g E S hA'
  have hh := hA'.1
  replace S : SInv w s₀ g₀ _ [] g₀ s g [(Str.ofString "flags", .int n)] := S
  refine st_assignL S (exL_list (ps := PS []) exs_nil (by decide) flat_nil) (by rfl) fun a s₁ g₁ S₁ => ?_
  refine st_forP PV.int (xs := rInts 0 1 32) (fun i => pW n (pfAt n i).fl a (pfAt n i).nm) (fun i => (pfAt n i).fin = false) rfl S₁ (ex_callT (ex_blt gl_range bb_range rfl) (exs_cons ex_int exs_nil) fn_range1) (itrF_range (n := 32) hh rfl rfl) (by rfl)
    ?_ (fun i i₀ I ob gp' s₂ g₂ E₂ hi hgp hP S₂ => ?_) fun s₂ g₂ E₂ hP S₂ => ?_
  · show ∀ q ∈ pW n n a [], _
    unfold pW
    walk_at "sub"
  · obtain ⟨hi32, rfl⟩ := rInts_get hi
    have e0 : (0 : Int) + (i : Int) * 1 = i := by omega
    rw [e0] at S₂
    unfold pW at S₂
    have hl := pf_len n i
    have step : ∀ b, (Builtin.bitAnd (pfAt n i).fl (flg i) != 0) = b → pfAt n (i + 1) = if b = true then ⟨Builtin.bitXor (pfAt n i).fl (flg i), (pfAt n i).nm ++ [nmOf i], Builtin.bitXor (pfAt n i).fl (flg i) == 0⟩ else pfAt n i := fun b hb => by
      show pfStep i (pfAt n i) = _
      unfold pfStep
      rw [hP, if_neg (by decide), hb]
    refine st_assign S₂ (p := .int (flg i)) (ex_bin (bi_shl (by omega) (by omega) (by simp)) ex_int (ex_name (p := .int (i : Int)) (by walk_at "mem"))) rfl (by rfl) fun s₃ g₃ S₃ => ?_
    refine st_if (c := Builtin.bitAnd (pfAt n i).fl (flg i) != 0) S₃ (tr_val (ex_bin bi_and (ex_name (by walk_at "mem")) (ex_name (by walk_at "mem"))) ty_int) (fun hc s₄ g₄ S₄ => ?_) fun hc s₄ g₄ S₄ => ?_
    · have e1 := step _ hc
      rw [if_pos rfl] at e1
      refine st_append S₄ (a := a) (l := PS (pfAt n i).nm) (p := .str (nmOf i)) (by walk_at "mem") ?sole (ex_flag rfl (exs_cons (ex_name (p := .int (flg i)) (by walk_at "mem")) (exs_cons (ex_callB (ex_blt gl_hex bb_hex rfl) (exs_cons (ex_name (p := .int (flg i)) (by walk_at "mem")) exs_nil) (fn_hex (hex_len i hi32))) exs_nil)) (name_isStr i hi32)) rfl (by rw [ps_len]; omega) fun s₅ g₅ S₅ => ?_
      case sole => walk_at "sole"
      have ea : PS (pfAt n i).nm ++ [PV.str (nmOf i)] = PS ((pfAt n i).nm ++ [nmOf i]) := by simp [PS]
      rw [ea] at S₅
      refine st_aug (p := .int (pfAt n i).fl) (q := .int (flg i)) S₅ (by walk_at "mem") rfl (ex_name (by walk_at "mem")) rfl ip_xor (by rfl) fun s₆ g₆ S₆ => ?_
      refine st_if (c := !(Builtin.bitXor (pfAt n i).fl (flg i) != 0)) S₆ (tr_not (tr_val (ex_name (by walk_at "mem")) ty_int)) (fun hc2 s₇ g₇ S₇ => ?_) fun hc2 s₇ g₇ S₇ => ?_
      · refine wpAny_execs_cons (wpAny_Break ?_)
        show wpAny _ _ _ _ _ _
        have hfin : (pfAt n (i + 1)).fin = true := by
          rw [e1]; show (_ == _) = true
          simpa using hc2
        have e2 : pfAt n 32 = pfAt n (i + 1) := by
          have := pf_stays hfin (32 - (i + 1))
          rwa [show i + 1 + (32 - (i + 1)) = 32 by omega] at this
        have e3 : pfNames n = (pfAt n i).nm ++ [nmOf i] := by
          unfold pfNames; rw [e2, if_pos hfin, e1]
        have S₈ := S₇.pop
        obtain ⟨g₈, S₈⟩ := S₈.freeze (x := Str.ofString "names") (a := a) (l := PS ((pfAt n i).nm ++ [nmOf i])) (by walk_at "mem") (by show Sole _ _ _; walk_at "sole")
        exact st_return (p := .str (pf n)) S₈ (Ex.eq (ex_join ex_str (exs_cons (ex_name (by walk_at "mem")) exs_nil) (by decide) (by rw [← e3]; exact hs)) (by unfold pf; rw [e3])) rfl
      · refine st_nil (st_nil (st_nil ⟨?_, g₇, S₇.less ?_⟩))
        · rw [e1]; show (_ == _) = false; simpa using hc2
        · rw [e1]
          show ∀ q ∈ pW n (Builtin.bitXor (pfAt n i).fl (flg i)) a ((pfAt n i).nm ++ [nmOf i]), _
          unfold pW
          walk_at "sub"
    · have e1 := step _ hc
      rw [if_neg (by decide)] at e1
      refine st_nil (st_nil ⟨by rw [e1]; exact hP, g₄, S₄.less ?_⟩)
      rw [e1]
      unfold pW
      walk_at "sub"
  · rw [rInts_length] at S₂ hP
    unfold pW at S₂
    have hl := pf_len n 32
    have e3 : pfNames n = (pfAt n 32).nm ++ [hexS (pfAt n 32).fl] := by unfold pfNames; rw [if_neg (by rw [hP]; decide)]
    refine st_append S₂ (a := a) (l := PS (pfAt n 32).nm) (p := .str (hexS (pfAt n 32).fl)) (by walk_at "mem") ?sole (ex_callB (ex_blt gl_hex bb_hex rfl) (exs_cons (ex_name (by walk_at "mem")) exs_nil) (fn_hex hx)) rfl (by rw [ps_len]; omega) fun s₅ g₅ S₅ => st_nil ?_
    case sole => walk_at "sole"
    have ea : PS (pfAt n 32).nm ++ [PV.str (hexS (pfAt n 32).fl)] = PS ((pfAt n 32).nm ++ [hexS (pfAt n 32).fl]) := by simp [PS]
    rw [ea] at S₅
    show wpAny _ _ _ _ _ _
    obtain ⟨g₈, S₈⟩ := S₅.freeze (x := Str.ofString "names") (a := a) (l := PS ((pfAt n 32).nm ++ [hexS (pfAt n 32).fl])) (by walk_at "mem") (by show Sole _ _ _; walk_at "sole")
    exact st_return (p := .str (pf n)) S₈ (Ex.eq (ex_join ex_str (exs_cons (ex_name (by walk_at "mem")) exs_nil) (by decide) (by rw [← e3]; exact hs)) (by unfold pf; rw [e3])) rfl
end
end Mine
end
noncomputable section
open PySem PySem.W PySem.Calls PyProof.Rows
namespace Mine

def reCode (l : List Nat) : Array Nat := l.toArray
def codeN : Array Nat := #[14, 10, 4, 1, 1, 22, 0, 31, 16, 127, 0, 13, 7, 22, 0, 31, 16, 127, 0, 1]
def codeV : Array Nat := #[14, 14, 4, 1, 1, 9, 4294966783, 0, 0, 2147483648, 0, 0, 0, 0, 0, 13, 11, 9, 4294966783, 0, 0, 2147483648, 0, 0, 0, 0, 0, 1]
def srM (code : Array Nat) (x : Str) : Sre.M := (Sre.forSearch code x.cps 0 0 x.cps.size false).runFor 4
def srFail (code : Array Nat) (x : Str) : Bool := match (srM code x).outcome with
  | some .failed => true
  | _ => false
theorem slot_search : Slot "re.Pattern" "search" "re.Pattern.search" :=
  .of (owner := "re.Pattern") (n := "search") (by rw [typeLookup_type, builtinLookup_eq_fast]; kernel_rfl) (by decide +kernel) (by decide +kernel) (by decide +kernel)
    (by first | exact .inl (by decide +kernel) | exact .inr (by decide +kernel)) (by rw [isSubtype_type]; kernel_rfl)
theorem type_search : typeOf (.builtin "re.Pattern.search") = pure (.type "method_descriptor") := by show builtinType _ = _; rw [builtinType_eq_fast]; kernel_rfl
theorem entry_search : entryFor table "re.Pattern.search" = some Builtin.«re.Pattern.search» := entryFor_of_tree (by kernel_rfl)
theorem plainAttrs_pattern : PlainAttrs "re.Pattern" :=
  ⟨⟨"object.__getattribute__", by rw [typeLookup_type, builtinLookup_eq_fast]; kernel_rfl, by decide +kernel⟩, by rw [typeLookup_type, builtinLookup_eq_fast]; kernel_rfl⟩
theorem args_search (a b : Value) : argsOk "re.Pattern.search" ⟨[a, b], []⟩ := by
  unfold argsOk; kernel_rfl

theorem named_search (v : Value) : Builtin.Re.reNamed "re.Pattern.search" "search" ["string", "pos", "endpos"] 1 [v] [] = pure [some v, none, none] := by rfl
section
variable {w : World} {A : Around}
theorem drive_done {M : Model} {A : Around} {E : Value → Shared → Prop} {s : Shared} {m : Sre.M} {Q : Sre.M → Shared → Prop} (n : Nat) (h : (m.runFor 4).outcome.isSome = true) (q : Q (m.runFor 4) s) : wpAny M A (Builtin.Re.reDrive (n + 1) m) Q E s := by
  unfold Builtin.Re.reDrive
  simp only [Builtin.Re.reTurnSteps, h, if_true]
  exact wpAny_pure q

theorem search_none {a c : Addr} {nc : Nat} {code : Array Nat} {x : Str} {t : Tok} {f0 f1 f3 f4 : Value} {its : Array Value} {s : Shared} {E : Value → Shared → Prop} {Q : Value → Shared → Prop}
    (ho : s.heap.get? a = some { cls := .type "re.Pattern", data := .fields #[f0, f1, .int 0 0, f3, f4, .ref c, .int 0 0] }) (hc : s.heap.get? c = some { cls := .type "tuple", data := .seq its nc })
    (hcode : (its.map Builtin.Re.reRawOf).map (·.toNat) = code) (hx : x.cps.size ≤ 1000000) (hf : srFail code x = true) (q : Q .none s) : wpAny (MM w) A (call (.builtin "re.Pattern.search") [.ref a, .str x t]) Q E s := by
  refine wpAny_call_entry slot_search ⟨_, ho, rfl⟩ entry_search ?_ (args_search _ _)
  show wpAny _ _ (Builtin.«re.Pattern.search» _) _ _ _
  unfold Builtin.«re.Pattern.search» Builtin.Re.reTarget
  refine wpAny_bind (wpAny_bind ?_)
  rw [named_search]
  refine wpAny_pure ?_
  have hz : min ((2 ^ 63 - 1 : Int).toNat) x.cps.size = x.cps.size := Nat.min_eq_right (Nat.le_trans hx (by decide))
  show wpAny _ _ (do let fs ← fieldsOf (.ref a); let (text, kind) ← Builtin.Re.reTextOf (.str x t); _) _ _ _
  refine wpAny_bind (wpAny_fieldsOf ho rfl ?_)
  refine wpAny_bind (wpAny_of_eq (a := (x.cps, 0)) rfl ?_)
  show wpAny _ _ (do Builtin.Re.reNoCollectionInside (.str x t) 0; _) _ _ _
  refine wpAny_bind (wpAny_of_eq (a := ()) rfl ?_)
  show wpAny _ _ (do let its ← Builtin.Re.reRawItems (.ref c); _) _ _ _
  refine wpAny_bind ?_
  unfold Builtin.Re.reRawItems
  refine wpAny_bind (wpAny_seqItems hc rfl ?_)
  refine wpAny_pure (wpAny_pure ?_)
  show wpAny _ _ (Builtin.Re.reAnswer _ (Sre.forSearch ((its.map Builtin.Re.reRawOf).map (·.toNat)) x.cps 0 0 (min ((2 ^ 63 - 1 : Int).toNat) x.cps.size) false)) _ _ _
  rw [hcode, hz]
  unfold Builtin.Re.reAnswer Builtin.Re.reRunToEnd
  have hm : (srM code x).outcome = some .failed := by
    unfold srFail at hf
    split at hf
    · assumption
    · cases hf
  refine wpAny_bind (wpAny_bind (drive_done (2 ^ 64 - 1) (by show (srM code x).outcome.isSome = true; rw [hm]; rfl) ?_))
  refine wpAny_bind (wpAny_forIn_list _ (fun _ _ s' => s' = s) _ (fun i rest b s' e => ?_) (fun b s' e => ?_) _ _ rfl)
  · subst e
    split
    · exact wpAny_bind (wpAny_rule (wpAny_pure rfl))
    · exact wpAny_pure rfl
  · subst e
    show wpAny _ _ (match (srM code x).outcome with | some Sre.Outcome.matched => _ | some Sre.Outcome.failed => _ | some (Sre.Outcome.stuck why) => _ | none => _) _ _ _
    rw [hm]
    refine wpAny_pure ?_
    exact wpAny_pure ⟨_, rfl, q⟩

theorem fn_searchN {x : Str} (hx : x.cps.size ≤ 1000000) (hf : srFail codeN x = true) : Fn w A (.builtin "re.Pattern.search") [.val (.ref 48), .str x] .none := by
  intro s g vs E le B R
  cases R with
  | cons h r =>
    cases r with
    | cons h2 r => cases r; cases h; cases h2; exact search_none (B.k 48 _ (by rfl)) (B.k 47 _ (by rfl)) (code := codeN) (by kernel_rfl) hx hf ⟨g, Grow.refl le, .none⟩
theorem fn_searchV {x : Str} (hx : x.cps.size ≤ 1000000) (hf : srFail codeV x = true) : Fn w A (.builtin "re.Pattern.search") [.val (.ref 53), .str x] .none := by
  intro s g vs E le B R
  cases R with
  | cons h r =>
    cases r with
    | cons h2 r => cases r; cases h; cases h2; exact search_none (B.k 53 _ (by rfl)) (B.k 52 _ (by rfl)) (code := codeV) (by kernel_rfl) hx hf ⟨g, Grow.refl le, .none⟩
end
end Mine
end
noncomputable section
open PySem PySem.W PySem.Calls PyProof.Rows
namespace Mine
section
variable {w : World} {A : Around} {env : Env} {V : Vars} {s : Shared} {g : Gm} {E : Value → Shared → Prop}

theorem call_codeH {k : Nat} {a : Addr} {o : Obj} {fd : FuncData} {body : List Stmt} {xs : List Str} {ps : List PV} {args : Args} {R : Result → Shared → Prop} (hA : AOk (k + 1) A) (hk : s.heap.get? a = some o) (hd : o.data = .func fd) (hb : fd.body = .stmts body) (hclo : fd.closure = [])
    (hcode : s.heap.CodeRec fd.code fd.qualname) (hnd : xs.Nodup) (hprm : xs.all (prmOk fd.scope.names) = true)
    (hglob : fd.globals = mainGlobals) (hblt : fd.builtins = builtinsNs) (hkind : fd.scope.kind = .function) (hco : fd.scope.isCoroutine = false) (hgen : fd.scope.isGenerator = false) (hps : ps.all PV.fz = true)
    (B : Base w s.heap)
    (hbind : wpAny (MM w) A.in1 (bindArgs fd args) (fun binds s₁ => ∃ g₁ vs, Grow s g s₁ g₁ ∧ binds = xs.zip vs ∧ vs.length = xs.length ∧ Reps g₁ vs ps) (fun e s' => R (.error e) s') s)
    (h : ∀ (L : Addr) (s₀ : Shared) (g₀ : Gm) (s' : Shared) (g' : Gm) (E' : Value → Shared → Prop), Grow s g s₀ g₀ → SInv w s₀ g₀ (callEnvC fd L a) [] g₀ s' g' (xs.zip ps) → AOk k (A.deeper (callEnvC fd L a)) →
      wpAny (MM w) (A.deeper (callEnvC fd L a)) (execs body (callEnvC fd L a)) (fun f s'' => R (.ok (.ret (match f with | .ret v => v | _ => .none))) s'') E' s') : codeAny (MM w) A (.call (.ref a) args) R s := by
  refine codeAny_call_function hA.room hk hd hco hgen hb hcode (wpAny_mono hbind (fun binds s₁ hbb => ?_) fun _ _ e => e)
  obtain ⟨g₁, vs, G₁, rfl, hl, RR⟩ := hbb
  have le := G₁.le
  have B₁ := B.mono G₁.get
  have hkeys : (xs.zip vs).map (·.1) = xs := by rw [List.map_fst_zip]; omega
  have hfrom : ∀ x ∈ xs, fd.scope.names.lookup x = some .local ∨ (fd.scope.names.lookup x = some .cell ∧ ((cellsFrom (s₁.heap.objs.size + 1) fd.scope.names []).lookup x).isSome = true) := fun x hx => by
    have := List.all_eq_true.mp hprm x hx
    unfold prmOk at this
    rcases Bool.or_eq_true_iff.mp this with e | e
    · exact .inl (by simpa using e)
    · have e' : fd.scope.names.lookup x = some .cell := by simpa using e
      obtain ⟨c, hc, _⟩ := cells_new fd.scope.names (s₁.heap.push { cls := .none, data := .plain }) [] (mem_of_lookupK e')
      rw [Heap.size_push] at hc
      exact .inr ⟨e', by rw [hc]; rfl⟩
  rw [hclo]
  refine wpAny_newFunctionEnv_cells hkind (fun x hx => hfrom x.1 (hkeys ▸ List.mem_map_of_mem hx)) fun env he s₂ X => ?_
  subst he
  refine ⟨B₁.nolimit.keeps X.toInCall.keep, codeAny_func ?_⟩
  obtain ⟨⟨⟨h₁, tk, rfl⟩, hns, hkeep, hfresh⟩, hcell, hap, habove⟩ := X
  have nL : s₁.heap.get? s₁.heap.objs.size = none := get_size_none _
  have above : ∀ c, s₁.heap.objs.size ≤ c → s₁.heap.get? c = none := fun c hc => by
    cases e : s₁.heap.get? c with
    | none => rfl
    | some o => exact absurd (Heap.lt_size e) (Nat.not_lt.mpr hc)
  have gn : ∀ a, s₁.heap.get? a = none → g₁ a = none := fun a ha => by
    cases e : g₁ a with
    | none => rfl
    | some o => rw [le _ _ e] at ha; cases ha
  have S : SInv w s₁ g₁ (callEnvC fd s₁.heap.objs.size a) [] g₁ { s₁ with heap := h₁, toks := tk } g₁ (xs.zip ps) := by
    refine ⟨B₁, Grow.keep le hkeep, hkind, hglob, hblt, fun q hq => ?_, ⟨_, hns⟩, nL, gn _ nL, fun n c hc => ?_, hap, fun _ _ e => e, fun x b l hm => ?_, fun p hp => nomatch hp⟩
    · obtain ⟨v, hv, rv⟩ := RR.zip q hq
      refine ⟨v, ?_, rv.T⟩
      have hx : q.1 ∈ xs := by have := List.mem_map_of_mem (f := (·.1)) hv; rw [hkeys] at this; exact this
      rcases hfrom q.1 hx with e | ⟨e, e2⟩
      · exact .inl ⟨e, _, hns, bindL_get (kindOf := (callEnvC fd s₁.heap.objs.size a).kindOf) e _ _ (by rw [hkeys]; exact hnd) hv⟩
      · obtain ⟨c, hc⟩ := Option.isSome_iff_exists.mp e2
        refine .inr ⟨.inl e, c, hc, ?_⟩
        have : h₁.IsCell c (bindC (callEnvC fd s₁.heap.objs.size a).kindOf (xs.zip vs) (fun _ => none) q.1) := hcell q.1 c hc
        show h₁.IsCell c (some v)
        rwa [bindC_get (kindOf := (callEnvC fd s₁.heap.objs.size a).kindOf) (by rw [show (callEnvC fd s₁.heap.objs.size a).kindOf q.1 = some .cell from e]; decide) _ _ (by rw [hkeys]; exact hnd) hv] at this
    · have h1 := habove n c (mem_of_lookup hc)
      have h2 : s₁.heap.get? c = none := above c (Nat.le_of_lt h1)
      exact ⟨⟨_, hcell n c hc⟩, h2, gn _ h2, Nat.ne_of_gt h1⟩
    · exfalso
      have : (PV.mut b l) ∈ ps := (List.of_mem_zip hm).2
      have := List.all_eq_true.mp hps _ this
      cases this
  refine wpAny_mono (h s₁.heap.objs.size s₁ g₁ _ g₁ _ G₁ S hA.deeper) (fun fl s' hf => ?_) fun _ _ x => x
  exact hf

theorem call_code {k : Nat} {a : Addr} {o : Obj} {fd : FuncData} {body : List Stmt} {xs : List Str} {ps : List PV} {args : Args} {R : Result → Shared → Prop} (hA : AOk (k + 1) A) (hk : (KK w.params).lookup a = some o) (hd : o.data = .func fd) (hb : fd.body = .stmts body) (hclo : fd.closure = [])
    (hcode : codeIn (KK w.params) fd.code fd.qualname = true) (hnd : xs.Nodup) (hprm : xs.all (prmOk fd.scope.names) = true)
    (hglob : fd.globals = mainGlobals) (hblt : fd.builtins = builtinsNs) (hkind : fd.scope.kind = .function) (hco : fd.scope.isCoroutine = false) (hgen : fd.scope.isGenerator = false) (hps : ps.all PV.fz = true)
    (B : Base w s.heap)
    (hbind : wpAny (MM w) A.in1 (bindArgs fd args) (fun binds s₁ => ∃ g₁ vs, Grow s g s₁ g₁ ∧ binds = xs.zip vs ∧ vs.length = xs.length ∧ Reps g₁ vs ps) (fun e s' => R (.error e) s') s)
    (h : ∀ (L : Addr) (s₀ : Shared) (g₀ : Gm) (s' : Shared) (g' : Gm) (E' : Value → Shared → Prop), Grow s g s₀ g₀ → SInv w s₀ g₀ (callEnvC fd L a) [] g₀ s' g' (xs.zip ps) → AOk k (A.deeper (callEnvC fd L a)) →
      wpAny (MM w) (A.deeper (callEnvC fd L a)) (execs body (callEnvC fd L a)) (fun f s'' => R (.ok (.ret (match f with | .ret v => v | _ => .none))) s'') E' s') : codeAny (MM w) A (.call (.ref a) args) R s :=
  call_codeH (xs := xs) (ps := ps) hA (B.k _ _ hk) hd hb hclo (codeRec_of B.k hcode) hnd hprm hglob hblt hkind hco hgen hps B hbind h

theorem call_run {k : Nat} {a : Addr} {o : Obj} {fd : FuncData} {body : List Stmt} {xs : List Str} {ps : List PV} {args : Args} {Q : Value → Shared → Prop} (hA : AOk (k + 1) A) (hk : (KK w.params).lookup a = some o) (hd : o.data = .func fd) (hb : fd.body = .stmts body) (hclo : fd.closure = [])
    (hcode : codeIn (KK w.params) fd.code fd.qualname = true) (hnd : xs.Nodup) (hprm : xs.all (prmOk fd.scope.names) = true)
    (hglob : fd.globals = mainGlobals) (hblt : fd.builtins = builtinsNs) (hkind : fd.scope.kind = .function) (hco : fd.scope.isCoroutine = false) (hgen : fd.scope.isGenerator = false) (hps : ps.all PV.fz = true)
    (B : Base w s.heap)
    (hbind : wpAny (MM w) A.in1 (bindArgs fd args) (fun binds s₁ => ∃ g₁ vs, Grow s g s₁ g₁ ∧ binds = xs.zip vs ∧ vs.length = xs.length ∧ Reps g₁ vs ps) E s)
    (h : ∀ (L : Addr) (s₀ : Shared) (g₀ : Gm) (s' : Shared) (g' : Gm) (E' : Value → Shared → Prop), Grow s g s₀ g₀ → SInv w s₀ g₀ (callEnvC fd L a) [] g₀ s' g' (xs.zip ps) → AOk k (A.deeper (callEnvC fd L a)) →
      wpAny (MM w) (A.deeper (callEnvC fd L a)) (execs body (callEnvC fd L a)) (fun f s'' => Q (match f with | .ret v => v | _ => .none) s'') E' s') : wpAny (MM w) A (call (.ref a) args.pos args.kw) Q E s :=
  wpAny_call (call_code (xs := xs) (ps := ps) hA hk hd hb hclo hcode hnd hprm hglob hblt hkind hco hgen hps B hbind h)
end
end Mine
end
noncomputable section
open PySem PySem.W PySem.Calls PyProof.Rows
namespace Mine

local macro_rules | `(tactic| walk_at "mem") => `(tactic| first
  | with_reducible exact List.mem_cons_self
  | ((with_reducible refine List.mem_cons_of_mem _ ?_); walk_at "mem")
  | ((with_reducible refine mem_cap ?hm ?hc); (case hc => rfl); (case hm => walk_at "mem"))
  | with_reducible exact mem_upd_self
  | ((with_reducible refine mem_upd ?hm ?hc); (case hc => rfl); (case hm => walk_at "mem")))

section
variable {w : World} {A : Around} {env : Env} {V : Vars} {s : Shared} {g : Gm} {E : Value → Shared → Prop}

theorem find_ga (P : Params) : findIn (KK P) (.ref 182) "__getattribute__" = some (some (.builtin "object.__getattribute__")) := by kernel_rfl
theorem find_gt (P : Params) : findIn (KK P) (.ref 182) "__getattr__" = some none := by kernel_rfl
theorem find_conv (P : Params) : findIn (KK P) (.ref 182) "_convert_string_type" = some (some (.ref 83)) := by kernel_rfl
theorem find_all (P : Params) : findIn (KK P) (.ref 182) "get_all" = some (some (.ref 121)) := by kernel_rfl
theorem find_add (P : Params) : findIn (KK P) (.ref 182) "add_header" = some (some (.ref 179)) := by kernel_rfl
theorem find_init (P : Params) : findIn (KK P) (.ref 182) "__init__" = some (some (.ref 76)) := by kernel_rfl
theorem makes_hdr (P : Params) : makesIn (KK P) 182 = true := by kernel_rfl

theorem cm_is_val {a b : Value} (hp : plainIs a b = true) : Cm w A .Is (.val a) (.val b) (a == b) := by
  intro s g v u E le B R₁ R₂
  cases (show Rep g v (.val a) from R₁)
  cases (show Rep g u (.val b) from R₂)
  exact wpAny_is_plain hp ⟨rfl, g, Grow.refl le⟩
theorem cm_isnot_val {a b : Value} (hp : plainIs a b = true) : Cm w A .IsNot (.val a) (.val b) (!(a == b)) := by
  intro s g v u E le B R₁ R₂
  cases (show Rep g v (.val a) from R₁)
  cases (show Rep g u (.val b) from R₂)
  exact wpAny_isNot_plain hp ⟨rfl, g, Grow.refl le⟩
theorem cm_isnot_strnone {x : Str} : Cm w A .IsNot (.str x) .none true := by
  intro s g v u E le B R₁ R₂
  cases (show Rep g v (.str x) from R₁)
  cases (show Rep g u .none from R₂)
  exact wpAny_isNot_plain (by rfl) ⟨rfl, g, Grow.refl le⟩
theorem cm_isnot_nonenone : Cm w A .IsNot .none .none false := by
  intro s g v u E le B R₁ R₂
  cases (show Rep g v .none from R₁)
  cases (show Rep g u .none from R₂)
  exact wpAny_isNot_plain (by rfl) ⟨rfl, g, Grow.refl le⟩

theorem fn_typeStr {x : Str} : Fn w A (.type "type") [.str x] (.val (.type "str")) := by
  intro s g vs E le B R
  cases R with
  | cons h r => cases r; cases h; exact call_type_of rfl (by decide +kernel) ⟨g, Grow.refl le, .val _⟩
theorem fn_typeInt {x : Int} : Fn w A (.type "type") [.int x] (.val (.type "int")) := by
  intro s g vs E le B R
  cases R with
  | cons h r => cases r; cases h; exact call_type_of rfl (by decide +kernel) ⟨g, Grow.refl le, .val _⟩
theorem fn_typeList {l : List PV} : Fn w A (.type "type") [.list l] (.val (.type "list")) := by
  intro s g vs E le B R
  cases R with
  | cons h r =>
    cases r
    cases h with
    | list h1 hc hd rs => exact call_type_of ⟨_, le _ _ h1, hc⟩ (by decide +kernel) ⟨g, Grow.refl le, .val _⟩

theorem ex_methR1 {o e : Expr} {name : Str} {apos pos : Pos} {a : Addr} {T id : String} {p q : PV} (ho : Ex w A env V o (.val (.ref a))) (hT : ∀ h, Base w h → ∃ ob, h.get? a = some ob ∧ ob.cls = .type T ∧ ob.dict = none) (he : Exs w A env V pos [e] [q]) (F : Fn w A (.builtin id) [.val (.ref a), q] p)
    (pa : PlainAttrs T) (hs : Slot T name id) (ht : typeOf (.builtin id) = pure (.type "method_descriptor"))
    (h1 : attributeBase o name env (eval o env) = eval o env := by rfl) (h3 : (apos.endLine == pos.line) = true := by rfl) (h4 : backTo pos (starEach [e] env) = [(false, eval e env)] := by rfl) : Ex w A env V (.Call (.Attribute o name apos) [e] [] pos) p := by
  intro s g E I
  refine wpAny_Call_method1_late h1 h3 h4 (ho.run I fun v s₁ g₁ G₁ R₁ I₁ => ?_)
  cases (show Rep g₁ v (.val _) from R₁)
  obtain ⟨ob, e1, e2, e3⟩ := hT _ I₁.base
  refine ⟨T, id, pa, hs, ht, ⟨_, e1, e2⟩, (fun b e => by cases e; exact ⟨_, e1, e3⟩), callWith_builtin (by rfl) (evalArgs_plain ?_)⟩
  rw [← h4]
  refine he.run I₁ fun vs s₂ g₂ G₂ R₂ I₂ => ?_
  exact F.run I₂.le I₂.base (.cons (.val _) R₂) fun u s₃ g₃ G₃ R₃ => ⟨g₃, (G₁.trans G₂).trans G₃, R₃.T⟩

set_option maxHeartbeats 4000000 in
theorem conv_run {k : Nat} {v : Str} {t : Tok} {self : Value} {b : Bool} {Q : Value → Shared → Prop} (hA : AOk (k + 1) A) (hN : b = true → srFail codeN v = true) (hV : b = false → srFail codeV v = true) (hz : v.cps.size ≤ 1000000) (le : Le g s.heap) (B : Base w s.heap)
    (kk : ∀ s' g' t', Grow s g s' g' → Q (.str v t') s') : wpAny (MM w) A (call (.ref 83) [self, .str v t] [(Str.ofString "name", .bool b)]) Q E s := by
  refine call_run (args := ⟨[self, .str v t], [(Str.ofString "name", .bool b)]⟩) (xs := [Str.ofString "self", Str.ofString "value", Str.ofString "name"]) (ps := [.val self, .str v, .bool b]) hA (by rfl) rfl rfl rfl (by rfl) (by decide) (by rfl) rfl rfl rfl rfl rfl rfl B
    (wpAny_of_eq (a := [(Str.ofString "self", self), (Str.ofString "value", .str v t), (Str.ofString "name", .bool b)]) (by rfl) ⟨g, [self, .str v t, .bool b], Grow.refl le, rfl, rfl, .cons (.val _) (.cons (.str _ _) (.cons (.bool _) .nil))⟩) ?_
  intro L s₀ g₀ s' g' E' G S hA'
  have hh := hA'.1
  replace S : SInv w s₀ g₀ _ [] g₀ s' g' [(Str.ofString "self", .val self), (Str.ofString "value", .str v), (Str.ofString "name", .bool b)] := S
  refine st_if (c := true) S (tr_cmp (b := true) (cm_is_val (a := .type "str") (b := .type "str") (by rfl)) (ex_callT (ex_blt gl_type bb_type rfl) (exs_cons (ex_name (by walk_at "mem")) exs_nil) fn_typeStr) (ex_blt gl_str bb_str rfl)) (fun hc s₁ g₁ S₁ => ?_) (fun hc => by cases hc)
  refine st_assign S₁ (p := .val (.ref (if b then 48 else 53))) (ex_if (tr_val (ex_name (by walk_at "mem")) ty_bool) (fun hb => by subst hb; exact ex_glob gl_name_disallowed_re (fun g => .val _) rfl) fun hb => by subst hb; exact ex_glob gl_value_disallowed_re (fun g => .val _) rfl) rfl (by rfl) fun s₂ g₂ S₂ => ?_
  refine st_if (c := false) S₂ (tr_val (ex_methR1 (T := "re.Pattern") (ex_name (by walk_at "mem")) (fun h B => ?_) (exs_cons (ex_name (p := .str v) (by walk_at "mem")) exs_nil) ?_ plainAttrs_pattern slot_search type_search) ty_none) (fun hc => by cases hc) fun hc s₃ g₃ S₃ => st_nil ?_
  · cases b with
    | true => exact ⟨_, B.k 48 _ (by rfl), rfl, rfl⟩
    | false => exact ⟨_, B.k 53 _ (by rfl), rfl, rfl⟩
  · cases b with
    | true => exact fn_searchN hz (hN rfl)
    | false => exact fn_searchV hz (hV rfl)
  show wpAny _ _ _ _ _ _
  refine st_return (p := .str v) S₃ (ex_name (by walk_at "mem")) rfl fun u s₄ g₄ G₄ R₄ => ?_
  cases R₄
  exact kk s₄ g₄ _ (G.trans G₄)
end
end Mine
end
noncomputable section
open PySem PySem.W PySem.Calls PyProof.Rows
namespace Mine
section
variable {w : World} {A : Around} {env : Env} {V : Vars} {s : Shared} {g : Gm} {E : Value → Shared → Prop}

def Inst (p : PV) : Prop := ∀ h g v, RepT h g v p → ∃ x l, v = .ref x ∧ Rep g (.ref x) (.obj l)
theorem inst_obj {l : Addr} : Inst (.obj l) := fun h g v r => by
  cases (show Rep g v (.obj l) from r) with
  | obj hx hd => exact ⟨_, _, rfl, .obj hx hd⟩
theorem inst_hdr {ents : List (Str × Str)} : Inst (.hdr ents) := fun h g v r => by
  cases (show Rep g v (.hdr ents) from r) with
  | hdr hx hl => exact ⟨_, _, rfl, hx⟩
theorem Rep.inst {x l : Addr} {h : Heap} (le : Le g h) (r : Rep g (.ref x) (.obj l)) : ∃ d hh tk n, InstAt h x { cls := .ref 182, dict := some d, data := .plain } 182 (some { cls := .type "dict", data := .dict #[⟨hh, .str (Str.ofString "_headers") tk, .ref l⟩] n }) := by
  cases r with
  | obj hx hd => exact ⟨_, _, _, _, le _ _ hx, rfl, rfl, le _ _ hd⟩

theorem ex_conv {k : Nat} {o e : Expr} {apos pos p1 p2 : Pos} {kk : Nat} {b : Bool} {p : PV} {v : Str} {pl : Sem Bool} (hA : AOk (k + 1) A) (ho : Ex w A env V o p) (hp : Inst p) (he : Exs w A env V pos [e] [.str v])
    (hN : b = true → srFail codeN v = true) (hV : b = false → srFail codeV v = true) (hz : v.cps.size ≤ 1000000)
    (hev : eval (.Call (.Attribute o (Str.ofString "_convert_string_type") apos) [e] [{ arg := some (Str.ofString "name"), value := .Constant (.bool b) kk p1, pos := p2 }] pos) env = (do
      let ov ← eval o env
      standAt apos.atName
      let (f, first) ← holding [ov] (getMethod ov (Str.ofString "_convert_string_type") pl)
      callWith pos f first (backTo pos (starEach [e] env)) (backToKw pos (keywordEach [{ arg := some (Str.ofString "name"), value := .Constant (.bool b) kk p1, pos := p2 }] env))) := by rfl)
    (hst : starEach [e] env = (false, eval e env) :: starEach [] env := by rfl)
    (hpl : ((backTo pos (starEach [e] env)).any (·.1) || (backToKw pos (keywordEach [{ arg := some (Str.ofString "name"), value := .Constant (.bool b) kk p1, pos := p2 }] env)).any (·.1.isNone)) = false := by rfl) :
    Ex w A env V (.Call (.Attribute o (Str.ofString "_convert_string_type") apos) [e] [{ arg := some (Str.ofString "name"), value := .Constant (.bool b) kk p1, pos := p2 }] pos) (.str v) := by
  intro s g E I
  refine methodCall_KW (ho.run I fun ov s₁ g₁ G₁ R₁ I₁ => ?_) hev
  obtain ⟨x, l, rfl, Ro⟩ := hp _ _ _ R₁
  obtain ⟨d, hh, tk, n, Ia⟩ := Ro.inst I₁.le
  refine method_fn I₁.base.k Ia (find_ga _) (find_gt _) (find_conv _) (by rfl) (by rfl) ?_
  refine callWith_KW I₁.base.k (by rfl) (by rfl) (he.run I₁ fun vs s₂ g₂ G₂ R₂ I₂ => ?_) hpl hst
  cases R₂ with
  | cons r1 rs =>
    cases rs; cases r1
    refine kwAll_cons (wpAny_Constant_bool (kwAll_nil ?_))
    refine ⟨I₂.base.k, ?_⟩
    exact conv_run hA hN hV hz I₂.le I₂.base fun s₃ g₃ t₃ G₃ => ⟨g₃, (G₁.trans G₂).trans G₃, .str _ _⟩

/-- a method of the class, by position -/
theorem ex_methI {o e : Expr} {es : List Expr} {name : Str} {apos pos : Pos} {f : Addr} {p r : PV} {ps : List PV} {pl : Sem Bool} (ho : Ex w A env V o p) (hp : Inst p) (hpz : p.fz = true) (he : Exs w A env V pos (e :: es) ps) (F : Fn w A (.ref f) (p :: ps) r)
    (hf : findIn (KK w.params) (.ref 182) name = some (some (.ref f))) (ht : typeIn (KK w.params) (.ref f) = some (.type "function")) (hk : keepIn (KK w.params) (.ref f) = true) (hn : name ≠ Str.ofString "_headers")
    (hev : eval (.Call (.Attribute o name apos) (e :: es) [] pos) env = (do
      let ov ← eval o env
      standAt apos.atName
      let (f, first) ← holding [ov] (getMethod ov name pl)
      callWith pos f first (backTo pos (starEach (e :: es) env)) (backToKw pos (keywordEach [] env))) := by rfl)
    (hst : starEach (e :: es) env = (false, eval e env) :: starEach es env := by rfl)
    (hpl : ((backTo pos (starEach (e :: es) env)).any (·.1) || (backToKw pos (keywordEach [] env)).any (·.1.isNone)) = false := by rfl) :
    Ex w A env V (.Call (.Attribute o name apos) (e :: es) [] pos) r := by
  intro s g E I
  refine methodCall_KW (ho.run I fun ov s₁ g₁ G₁ R₁ I₁ => ?_) hev
  obtain ⟨x, l, rfl, Ro⟩ := hp _ _ _ R₁
  obtain ⟨d, hh, tk, n, Ia⟩ := Ro.inst I₁.le
  refine method_fn I₁.base.k Ia (find_ga _) (find_gt _) hf ht ?_ ?_
  · show (lookIn name { cls := .type "dict", data := .dict #[⟨hh, .str (Str.ofString "_headers") tk, .ref l⟩] n }).map (·.isSome) = some false
    unfold lookIn
    have : (Value.str (Str.ofString "_headers") tk).isStr name = false := by
      simp [Value.isStr]; exact fun e => hn e.symm
    simp [this, DictEntry.refKey, Value.isRef]
  refine callWith_KW I₁.base.k hk (by rfl) (he.run I₁ fun vs s₂ g₂ G₂ R₂ I₂ => ?_) hpl hst
  refine kwAll_nil ⟨I₂.base.k, ?_⟩
  exact F.run I₂.le I₂.base (.cons ((R₁.fz hpz).mono G₂.sub) R₂) fun u s₃ g₃ G₃ R₃ => ⟨g₃, (G₁.trans G₂).trans G₃, R₃.T⟩

theorem attr_run {x l : Addr} {expr : Bool} {Q : Value → Shared → Prop} (R : Rep g (.ref x) (.obj l)) (le : Le g s.heap) (B : Base w s.heap) (q : Q (.ref l) { s with toks := s.toks + 1 }) : wpAny (MM w) A (getAttr (.ref x) (Str.ofString "_headers") expr) Q E s := by
  obtain ⟨d, hh, tk, n, Ia⟩ := R.inst le
  exact get_value B.k Ia (find_ga _) (v := .ref l) (by rfl) (by rfl) q

theorem ex_attr {o : Expr} {pos : Pos} {ents : List (Str × Str)} (ho : Ex w A env V o (.hdr ents))
    (h1 : attributeBase o (Str.ofString "_headers") env (eval o env) = eval o env := by rfl) (ht : ∀ v r, letTemporaryGo o v r = pure () := by intro _ _; rfl) : Ex w A env V (.Attribute o (Str.ofString "_headers") pos) (.list (hents ents)) := by
  intro s g E I
  rw [arm_eval_Attribute, h1]
  refine wpAny_bind (ho.run I fun v s₁ g₁ G₁ R₁ I₁ => wpAny_bind (wpAny_standAt (wpAny_bind (wpAny_holding ?_))))
  cases (show Rep g₁ v (.hdr ents) from R₁) with
  | hdr hx hl =>
    refine attr_run hx I₁.le I₁.base ?_
    rw [ht]
    refine wpAny_bind (wpAny_pure (wpAny_pure ⟨g₁, G₁.trans (Grow.toks I₁.le _), hl⟩))
theorem ex_attrO {o : Expr} {pos : Pos} {l : Addr} (ho : Ex w A env V o (.obj l))
    (h1 : attributeBase o (Str.ofString "_headers") env (eval o env) = eval o env := by rfl) (ht : ∀ v r, letTemporaryGo o v r = pure () := by intro _ _; rfl) : Ex w A env V (.Attribute o (Str.ofString "_headers") pos) (.val (.ref l)) := by
  intro s g E I
  rw [arm_eval_Attribute, h1]
  refine wpAny_bind (ho.run I fun v s₁ g₁ G₁ R₁ I₁ => wpAny_bind (wpAny_standAt (wpAny_bind (wpAny_holding ?_))))
  cases (show Rep g₁ v (.obj l) from R₁) with
  | obj hx hd =>
    refine attr_run (.obj hx hd) I₁.le I₁.base ?_
    rw [ht]
    refine wpAny_bind (wpAny_pure (wpAny_pure ⟨g₁, G₁.trans (Grow.toks I₁.le _), Rep.val _⟩))

theorem ex_subT {value slice : Expr} {pos : Pos} {q : PV} {l : List PV} {i : Nat} (hv : Ex w A env V value (.tup l)) (hi : Ex w A env V slice (.int (i : Int))) (h1 : i ≤ 1000) (hq : l[i]? = some q) (hz : q.fz = true)
    (hs : ∀ o iv, subscripted slice false o iv = operate [o, iv] (getItem o iv) := by intro _ _; rfl) : Ex w A env V (.Subscript value slice pos) q := by
  intro s g E I
  refine Subscript_ (hv.run I fun v s₁ g₁ G₁ R₁ I₁ => hi.run I₁ fun u s₂ g₂ G₂ R₂ I₂ => ?_)
  cases (show Rep g₂ u (.int _) from R₂)
  cases ((show Rep g₁ v (.tup l) from R₁).mono G₂.sub) with
  | tup hg rs =>
    rename_i a n vs
    obtain ⟨y, hy, ry⟩ := rs.get hq
    have hl : i < vs.size := by have := (List.getElem?_eq_some_iff.mp hy).1; simpa using this
    have ht : IsTup s₂.heap a vs := ⟨_, I₂.le _ _ hg, rfl, _, rfl⟩
    exact tail_any ht.typeIs slot_tuple_getitem.lookup (getItem_tuple (j := i) ht (by omega) (by omega) (by unfold seqIndex?; simp; omega) (by simpa using hy) ⟨g₂, G₁.trans G₂, ry.T⟩) (hs _ _)
end
end Mine
end
noncomputable section
open PySem PySem.W PySem.Calls PyProof.Rows
namespace Mine

local macro_rules | `(tactic| walk_at "mem") => `(tactic| first
  | with_reducible exact List.mem_cons_self
  | ((with_reducible refine List.mem_cons_of_mem _ ?_); walk_at "mem")
  | ((with_reducible refine mem_cap ?hm ?hc); (case hc => rfl); (case hm => walk_at "mem"))
  | with_reducible exact mem_upd_self
  | ((with_reducible refine mem_upd ?hm ?hc); (case hc => rfl); (case hm => walk_at "mem")))

def getAllF (ents : List (Str × Str)) (nm : Str) : List Str := (ents.filter fun e => Txt.lower e.1 == nm).map (·.2)
def entPV (e : Str × Str) : PV := .tup [.str e.1, .str e.2]
def hasNm (nm : Str) (e : Str × Str) : Bool := Txt.lower e.1 == nm
def sndPV (e : Str × Str) : PV := .str e.2

section
variable {w : World} {A : Around}
set_option maxHeartbeats 4000000 in
theorem fn_getAll {k : Nat} (hA : AOk (k + 2) A) (ents : List (Str × Str)) (x : Str) (hx : x.length ≤ 100000) (hN : srFail codeN (Txt.lower x) = true) (hz : (Txt.lower x).cps.size ≤ 1000000) (he : ∀ e ∈ ents, e.1.length ≤ 100000) (hn : ents.length ≤ 100000) :
    Fn w A (.ref 121) [.hdr ents, .str x] (.list (PS (getAllF ents (Txt.lower x)))) := by
  refine fn_intro (xs := [Str.ofString "self", Str.ofString "name"]) hA (by rfl) rfl rfl rfl (by rfl) ?bind rfl (by decide) (by rfl) rfl rfl rfl rfl rfl rfl ?_
  case bind => intro vs h; match vs, h with | [v, u], _ => rfl
  intro L s₀ g₀ s g E S hA'
  have hh := hA'.1
  replace S : SInv w s₀ g₀ _ [] g₀ s g [(Str.ofString "self", .hdr ents), (Str.ofString "name", .str x)] := S
  refine st_assign S (ex_conv hA' (ex_name (by walk_at "mem")) inst_hdr (exs_cons (ex_lower (ex_name (by walk_at "mem")) hx) exs_nil) (fun _ => hN) (fun h => by cases h) hz) rfl (by rfl) fun s₁ g₁ S₁ => ?_
  refine st_return S₁ ?_ rfl
  refine Ex.eq (ex_comp entPV (hasNm (Txt.lower x)) sndPV (xs := ents) (pi := .list (hents ents)) (ex_attr (ex_name (by walk_at "mem"))) (itr_list hh rfl) (fun C q hq => tf_one ?_) (fun C q hq _ => ?_) (fun _ _ _ => rfl) hn (.inl rfl)) (by simp [PS, getAllF]; rfl)
  · exact tr_cmp cm_eq_str (ex_lower (ex_subT (i := 0) (q := .str q.1) (ex_name (p := entPV q) (by walk_at "mem")) ex_int (by omega) rfl rfl) (he q hq)) (ex_name (by walk_at "mem"))
  · exact ex_subT (i := 1) (q := .str q.2) (ex_name (p := entPV q) (by walk_at "mem")) ex_int (by omega) rfl rfl
end
end Mine
end
noncomputable section
open PySem PySem.W PySem.Calls PyProof.Rows
namespace Mine

local macro_rules | `(tactic| walk_at "mem") => `(tactic| first
  | with_reducible exact List.mem_cons_self
  | ((with_reducible refine List.mem_cons_of_mem _ ?_); walk_at "mem")
  | ((with_reducible refine mem_cap ?hm ?hc); (case hc => rfl); (case hm => walk_at "mem"))
  | with_reducible exact mem_upd_self
  | ((with_reducible refine mem_upd ?hm ?hc); (case hc => rfl); (case hm => walk_at "mem")))
local macro_rules | `(tactic| walk_at "sub") => `(tactic| first
  | with_reducible exact sub_nil
  | ((with_reducible refine sub_cons ?hm ?hc); (case hc => walk_at "sub"); (case hm => walk_at "mem")))
local macro_rules | `(tactic| walk_at "sole") => `(tactic| first
  | with_reducible exact sole_nil
  | ((with_reducible refine sole_upd ?hm ?hp); (case hp => (first | (intro _ _ e; cases e; done) | exact fun _ _ _ => .inl rfl)); (case hm => walk_at "sole"))
  | ((with_reducible refine sole_cons ?hm ?hp); (case hp => (first | (intro _ _ e; cases e; done) | exact fun _ _ _ => .inl rfl)); (case hm => walk_at "sole")))

section
variable {w : World} {A : Around} {env : Env} {V : Vars} {s₀ s : Shared} {g₀ g : Gm} {ks : List (Addr × Obj)} {gp : Gm} {E : Value → Shared → Prop} {Q : Flow → Shared → Prop} {rest : List Stmt}

/-- a loop that never turns -/
theorem st_for0 {target iter : Expr} {body : List Stmt} {pos : Pos} (S : SInv w s₀ g₀ env ks gp s g V)
    (h : ∀ E' : Value → Shared → Prop, wpAny (MM w) A (eval iter env) (fun x s₁ => wpAny (MM w) A (pyIter x) (fun it s₂ => ∀ (E'' : Value → Shared → Prop) (Q' : Option Value → Shared → Prop), (∀ s₃ g₃, Grow s g s₃ g₃ → Q' none s₃) → wpAny (MM w) A (pyNext it) Q' E'' s₂) E' s₁) E' s)
    (k : ∀ s' g', SInv w s₀ g₀ env ks gp s' g' V → wpAny (MM w) A (execs rest env) Q E s') (hs : ∀ x, foldedSetIterable iter env x = pure x := by intro _; rfl) :
    wpAny (MM w) A (execs (.For target iter body [] pos :: rest) env) Q E s := by
  refine wpAny_execs_cons (wpAny_For (wpAny_mono (h E) (fun x s₁ h₁ => wpAny_mono h₁ (fun it s₂ h₂ => ?_) fun _ _ e => e) fun _ _ e => e) hs)
  refine codeAny_forLoop_any (fun _ s' => s' = s₂) (fun n s' e => ?_) 0 rfl
  subst e
  refine h₂ _ _ fun s₃ g₃ G => ?_
  exact wpAny_execs_nil (k s₃ g₃ (S.step G))

theorem items_empty {x : Str} {np apos pos : Pos} (hh : A.handled = none) (I : Inv w s g env V) (hx : (x, .emp) ∈ V) (E' : Value → Shared → Prop)
    (hd : (x == ("__debug__" : Str)) = false := by decide) (h3 : (apos.endLine == pos.line) = true := by rfl)
    (h1 : attributeBase (.Name x np) (Str.ofString "items") env (eval (.Name x np) env) = eval (.Name x np) env := by rfl) :
    wpAny (MM w) A (eval (.Call (.Attribute (.Name x np) (Str.ofString "items") apos) [] [] pos) env) (fun x s₁ => wpAny (MM w) A (pyIter x) (fun it s₂ => ∀ (E'' : Value → Shared → Prop) (Q' : Option Value → Shared → Prop), (∀ s₃ g₃, Grow s g s₃ g₃ → Q' none s₃) → wpAny (MM w) A (pyNext it) Q' E'' s₂) E' s₁) E' s := by
  refine wpAny_Call_method0_late h1 h3 ((ex_name hx hd).run I fun v s₁ g₁ G₁ R₁ I₁ => ?_)
  cases (show Rep g₁ v .emp from R₁) with
  | emp hg hs =>
    rename_i a
    have ho := I₁.le _ _ hg
    refine ⟨"dict", "dict.items", PySem.F.plainAttrs_dict, PySem.F.slot_dict_items, PySem.F.type_dict_items, ⟨_, ho, rfl⟩, (fun b e => by cases e; exact ⟨_, ho, rfl⟩), callWith_method0 (env := env) ?_⟩
    have D : ∀ h : Heap, h.get? a = some { cls := .type "dict", data := .dict #[] } → h.DictAt (intKind PySem.Challenge.pw_rl0113_01 w) a [] 0 := fun h e => ⟨_, _, e, ⟨rfl, rfl, rfl⟩, rfl, (fun e he => by simp at he), .nil, List.nodup_nil⟩
    refine call_meetsIn PySem.F.slot_dict_items ⟨_, ho, rfl⟩ PySem.F.entry_dict_items (PySem.F.args_dict_items_1 _) (meets_dict_items (intKind PySem.Challenge.pw_rl0113_01 w) a hs) ⟨⟨[], by obtain ⟨o, es, r⟩ := D _ ho; exact ⟨o, es, 0, r⟩⟩, ?_⟩
    refine wpAny_pyIter_items (knd := intKind PySem.Challenge.pw_rl0113_01 w) (kvs := []) ⟨_, Heap.get?_push_size _ rfl, rfl, rfl⟩ (D _ (Heap.get?_push_of_some _ ho)) ?_
    intro E'' Q' q
    refine wpAny_pyNext_items_end (knd := intKind PySem.Challenge.pw_rl0113_01 w) (kvs := []) (i := 0) (ok := .none) (ov := .none) hh (Heap.get?_push_size _ rfl) (D _ (Heap.get?_push_of_some _ (Heap.get?_push_of_some _ ho))) rfl fun h' eb => ?_
    refine q _ g₁ (G₁.trans (Grow.keep (tk := s₁.toks) I₁.le fun b o e => eb b o ?_ (Heap.get?_push_of_some _ (Heap.get?_push_of_some _ e))))
    have := Heap.lt_size e
    have e2 : ∀ o : Obj, (s₁.heap.push o).objs.size = s₁.heap.objs.size + 1 := fun o => Heap.size_push ..
    rintro rfl
    rw [e2] at this
    exact absurd this (Nat.not_lt.mpr (Nat.le_succ _))

theorem join_one (sep v : Str) : Txt.join sep [v] = v := by
  rfl
theorem base_size {h : Heap} (B : Base w h) : 242 < h.objs.size := Heap.lt_size (B.k 242 _ (by rfl))

set_option maxHeartbeats 4000000 in
theorem add_run {k : Nat} {x H : Addr} {n v : Str} {tn tv : Tok} {vs : Array Value} {m : Nat} {ents : List (Str × Str)} {Q : Value → Shared → Prop} (hA : AOk (k + 2) A) (le : Le g s.heap) (B : Base w s.heap) (R : Rep g (.ref x) (.obj H))
    (hH : s.heap.get? H = some { cls := .type "list", data := .seq vs m }) (rs : Reps g vs.toList (hents ents)) (hN : srFail codeN n = true) (hV : srFail codeV v = true) (hzn : n.cps.size ≤ 1000000) (hzv : v.cps.size ≤ 1000000) (hlv : v.length ≤ 100000) (hn : ents.length ≤ 10000)
    (kk : ∀ s₁ g₁ h' vs' m', Grow s g s₁ g₁ → (∀ b o, b ≠ H → s₁.heap.get? b = some o → h'.get? b = some o) → h'.get? H = some { cls := .type "list", data := .seq vs' m' } → Reps g₁ vs'.toList (hents (ents ++ [(n, v)])) → Q .none { s₁ with heap := h' }) :
    wpAny (MM w) A (call (.ref 179) [.ref x, .str n tn, .str v tv]) Q E s := by
  have hd0 : (s.heap.objs.size == sysModules) = false := by
    have := base_size B
    rw [beq_eq_false_iff_ne]
    exact Nat.ne_of_gt (Nat.lt_trans (by decide) this)
  refine call_run (args := ⟨[.ref x, .str n tn, .str v tv], []⟩) (xs := [Str.ofString "self", Str.ofString "_name", Str.ofString "_value", Str.ofString "_params"]) (ps := [.obj H, .str n, .str v, .emp]) hA (by rfl) rfl rfl rfl (by rfl) (by decide) (by rfl) rfl rfl rfl rfl rfl rfl B
    (g := g) ?bind ?_
  case bind =>
    have e : bindArgs (fdOf (clsStmt 16) (Str.ofString "Headers.add_header") .none (.str (Str.ofString "cpy313.wsgiref.headers") 289) 178) ⟨[.ref x, .str n tn, .str v tv], []⟩ = (alloc { cls := .type "dict", data := .dict #[] } >>= fun d => pure [(Str.ofString "self", .ref x), (Str.ofString "_name", .str n tn), (Str.ofString "_value", .str v tv), (Str.ofString "_params", .ref d)]) := by rfl
    show wpAny _ _ (bindArgs (fdOf (clsStmt 16) (Str.ofString "Headers.add_header") .none (.str (Str.ofString "cpy313.wsgiref.headers") 289) 178) ⟨[.ref x, .str n tn, .str v tv], []⟩) _ _ _
    rw [e]
    refine wpAny_bind (wpAny_alloc (wpAny_pure ⟨gadd g s.heap.objs.size { cls := .type "dict", data := .dict #[] }, [.ref x, .str n tn, .str v tv, .ref s.heap.objs.size], Grow.push (tk := s.toks) le, rfl, rfl, ?_⟩))
    exact .cons (R.mono (Grow.push (tk := s.toks) le).sub) (.cons (.str _ _) (.cons (.str _ _) (.cons (.emp gadd_self hd0) .nil)))
  intro L s₀ g₀ s' g' E' G S hA'
  have hh := hA'.1
  replace S : SInv w s₀ g₀ _ [] g₀ s' g' [(Str.ofString "self", .obj H), (Str.ofString "_name", .str n), (Str.ofString "_value", .str v), (Str.ofString "_params", .emp)] := S
  refine st_assignL S (exL_list (ps := PS []) exs_nil (by decide) flat_nil) (by rfl) fun a s₁ g₁ S₁ => ?_
  refine st_if (c := true) S₁ (tr_cmp cm_isnot_strnone (ex_name (by walk_at "mem")) ex_none) (fun _ s₂ g₂ S₂ => ?_) (fun hc => by cases hc)
  refine st_assign S₂ (ex_conv hA' (ex_name (by walk_at "mem")) inst_obj (exs_cons (ex_name (p := .str v) (by walk_at "mem")) exs_nil) (fun h => by cases h) (fun _ => hV) hzv) rfl (by rfl) fun s₃ g₃ S₃ => ?_
  refine st_append S₃ (a := a) (l := PS []) (p := .str v) (by walk_at "mem") ?sole (ex_name (by walk_at "mem")) rfl (by decide) fun s₄ g₄ S₄ => st_nil ?_
  case sole => walk_at "sole"
  rw [show PS [] ++ [PV.str v] = PS [v] from rfl] at S₄
  show wpAny _ _ _ _ _ _
  refine st_for0 S₄ (fun E'' => items_empty hh S₄.inv (by walk_at "mem") E'') fun s₅ g₅ S₅ => ?_
  obtain ⟨g₆, S₆⟩ := S₅.freeze (x := Str.ofString "parts") (a := a) (l := PS [v]) (by walk_at "mem") (by show Sole _ _ _; walk_at "sole")
  have hH₅ : s₅.heap.get? H = some { cls := .type "list", data := .seq vs m } := S₅.grow.get _ _ (G.get _ _ hH)
  refine wpAny_execs_cons (wpAny_Expr_any (wpAny_Call_append (by rfl) (by rfl) (by rfl) (by rfl) ((ex_attrO (l := H) (ex_name (by walk_at "mem"))).run S₆.inv fun u s₇ g₇ G₇ R₇ I₇ => ?_)) (by rfl) rfl)
  cases (show Rep g₇ u (.val _) from R₇)
  have S₇ := S₆.step G₇
  refine ⟨H, vs, rfl, ⟨_, m, G₇.get _ _ hH₅, rfl, rfl, rfl⟩, (ex_tup (exs_cons (ex_conv hA' (ex_name (by walk_at "mem")) inst_obj (exs_cons (ex_name (p := .str n) (by walk_at "mem")) exs_nil) (fun _ => hN) (fun h => by cases h) hzn) (exs_cons (ex_join ex_str (exs_cons (ex_name (p := .list (PS [v])) (by walk_at "mem")) exs_nil) (by decide) (by simp; omega)) exs_nil)) (by show 2 ≤ 1000; decide)).run S₇.inv fun y s₈ g₈ G₈ R₈ I₈ => ?_⟩
  have S₈ := S₇.step G₈
  have hH₈ := G₈.get _ _ (G₇.get _ _ hH₅)
  have GG : Grow s g s₈ g₈ := G.trans S₈.grow
  have e := rs.length
  rw [Array.length_toList] at e
  refine wpAny_list_append_plain (items := vs) (hsz := by rw [sizeLine_eq]; simp [hents] at e; omega) ⟨m, hH₈⟩ fun h' pl sb => ?_
  obtain ⟨n', o'⟩ := pl
  refine wpAny_execs_nil (kk s₈ g₈ h' _ n' GG (fun b o hb e => sb.extBut b o hb e) o' ?_)
  have := (rs.mono GG.sub).snoc (R₈.fz rfl)
  simpa [hents, join_one] using this
end
end Mine
end
noncomputable section
open PySem PySem.W PySem.Calls PyProof.Rows
namespace Mine

local macro_rules | `(tactic| walk_at "mem") => `(tactic| first
  | with_reducible exact List.mem_cons_self
  | ((with_reducible refine List.mem_cons_of_mem _ ?_); walk_at "mem")
  | ((with_reducible refine mem_cap ?hm ?hc); (case hc => rfl); (case hm => walk_at "mem"))
  | with_reducible exact mem_upd_self
  | ((with_reducible refine mem_upd ?hm ?hc); (case hc => rfl); (case hm => walk_at "mem")))

section
variable {w : World} {A : Around} {env : Env} {V : Vars} {s₀ s : Shared} {g₀ g : Gm} {ks : List (Addr × Obj)} {gp : Gm} {E : Value → Shared → Prop} {Q : Flow → Shared → Prop} {rest : List Stmt}

theorem get_back {s s' : Shared} {g g' : Gm} {a : Addr} (G : Grow s g s' g') (h : s'.heap.get? a = none) : s.heap.get? a = none := by
  cases e : s.heap.get? a with
  | none => rfl
  | some o => rw [G.get _ _ e] at h; cases h

theorem SInv.rebase {sa : Shared} {ga : Gm} (S : SInv w s₀ g₀ env ks gp s g V) (G : Grow sa ga s₀ g₀) (B : Base w sa.heap) : SInv w sa ga env ks gp s g V where
  base₀ := B
  grow := G.trans S.grow
  kind := S.kind
  globals := S.globals
  builtins := S.builtins
  vars := S.vars
  ns := S.ns
  nL := get_back G S.nL
  gL := S.gL
  cells := fun n c h => let ⟨a, b, c', d⟩ := S.cells n c h; ⟨a, get_back G b, c', d⟩
  apart := S.apart
  pin := S.pin
  muts := fun x a l h => let ⟨a, b, c⟩ := S.muts x a l h; ⟨get_back G a, b, c⟩
  kept := fun p h => let ⟨a, b, c, d⟩ := S.kept p h; ⟨a, get_back G b, c, d⟩

/-- an object of the call's start is held -/
theorem SInv.holdOld {sa : Shared} {ga : Gm} {d : Addr} {o : Obj} (S : SInv w s₀ g₀ env ks gp s g V) (G : Grow sa ga s₀ g₀) (B : Base w sa.heap) (h0 : s₀.heap.get? d = some o) (hg : g₀ d = none) (ha : sa.heap.get? d = none) : SInv w sa ga env ((d, o) :: ks) gp s g V := by
  have S' := S.rebase G B
  refine { S' with kept := fun p hp => ?_ }
  cases hp with
  | tail _ hp => exact S'.kept p hp
  | head =>
    refine ⟨S.grow.get _ _ h0, ha, S.grow.stays h0 hg, ⟨?_, fun n c hc => ?_⟩, fun x b l hm => ?_⟩
    · rintro rfl; rw [S.nL] at h0; cases h0
    · rintro rfl; rw [(S.cells n _ hc).2.1] at h0; cases h0
    · rintro rfl; rw [(S.muts x _ l hm).1] at h0; cases h0

theorem find_sa (P : Params) : findIn (KK P) (.ref 182) "__setattr__" = some (some (.builtin "object.__setattr__")) := by kernel_rfl
theorem over182 (P : Params) : plainOver (KK P) 182 = true := by kernel_rfl
theorem taker182 (P : Params) : takerIn (KK P) 182 (Str.ofString "_headers") = some none := by kernel_rfl
theorem cls182 (P : Params) : (clsIn (KK P) 182).any (·.hasDict) = true := by kernel_rfl

/-- self._headers = v, in a new object -/
theorem setattr_run {x d : Addr} {v : Value} {Q : Unit → Shared → Prop} (B : Base w s.heap) (hx : s.heap.get? x = some { cls := .ref 182, dict := some d, data := .plain }) (hd : s.heap.get? d = some { cls := .type "dict", data := .dict #[] })
    (q : ∀ h' tk hh tk', (∀ b o, b ≠ d → s.heap.get? b = some o → h'.get? b = some o) → h'.get? d = some { cls := .type "dict", data := .dict #[⟨hh, .str (Str.ofString "_headers") tk', v⟩] 1 } → Q () { s with heap := h', toks := tk }) :
    wpAny (MM w) A (setAttr (.ref x) (Str.ofString "_headers") v) Q E s := by
  have I : InstAt s.heap x { cls := .ref 182, dict := some d, data := .plain } 182 (some { cls := .type "dict", data := .dict #[] }) := ⟨hx, rfl, rfl, hd⟩
  refine set_plain B.k I (find_sa _) ?_
  have I' : InstAt ({ s with toks := s.toks + 1 } : Shared).heap x { cls := .ref 182, dict := some d, data := .plain } 182 (some { cls := .type "dict", data := .dict #[] }) := I
  refine osa_open (s := { s with toks := s.toks + 1 }) B.k I' (over182 _) (taker182 _) fun b => ?_
  obtain ⟨cd, hc, hd'⟩ := any_some (cls182 w.params)
  refine wpAny_bind (wpAny_pure (wpAny_bind (wpAny_bind (wpAny_loadPart hx (wpAny_bind (Looks.here (s := { s with toks := s.toks + 1 }) (looks_clsIn B.k hc) ?_))))))
  rw [hd']
  refine wpAny_pure (a := some d) (wpAny_bind (wpAny_pure (wpAny_bind ?_)))
  unfold nsSet
  refine wpAny_bind (wpAny_bind (wpAny_askSetting (wpAny_pure (wpAny_bind (wpAny_mkText (wpAny_bind (wpAny_loadPart hd ?_)))))))
  dsimp only
  rw [if_neg (by decide)]
  refine wpAny_updatePart hd ?_
  have D' : (s.heap.update d (Obj.putName (Str.ofString "_headers") (PyData.keyHash w.params (Str.ofString "_headers")) (.str (Str.ofString "_headers") (s.toks + 1)) v)).get? d = some { cls := .type "dict", data := .dict #[⟨PyData.keyHash w.params (Str.ofString "_headers"), .str (Str.ofString "_headers") (s.toks + 1), v⟩] 1 } := by
    exact Heap.get?_update_self _ hd rfl
  refine wpAny_bind (wpAny_lookBehind D' (pastItsLine_dict (by rw [sizeLine_eq]; show 1 ≤ 16777216 + 1; decide)) ?_)
  exact wpAny_pure (q _ _ _ _ (fun b o hb e => (Heap.get?_update_ne _ _ _ _ hb).trans e) D')

theorem SInv.turnH {a : Addr} {o o' : Obj} {h' : Heap} {tk : Nat} (S : SInv w s₀ g₀ env [(a, o)] gp s g V) (k : ∀ b o, b ≠ a → s.heap.get? b = some o → h'.get? b = some o) (ho : h'.get? a = some o') : SInv w s₀ g₀ env [(a, o')] gp { s with heap := h', toks := tk } g V :=
  S.turn (fun p hp => nomatch hp) k ho

theorem itr0 {p : PV} {x : Str} {np : Pos} (hit : Itr w A p []) (I : Inv w s g env V) (hx : (x, p) ∈ V) (E' : Value → Shared → Prop) (hd : (x == ("__debug__" : Str)) = false := by decide) :
    wpAny (MM w) A (eval (.Name x np) env) (fun x s₁ => wpAny (MM w) A (pyIter x) (fun it s₂ => ∀ (E'' : Value → Shared → Prop) (Q' : Option Value → Shared → Prop), (∀ s₃ g₃, Grow s g s₃ g₃ → Q' none s₃) → wpAny (MM w) A (pyNext it) Q' E'' s₂) E' s₁) E' s := by
  refine (ex_name hx hd).run I fun v s₁ g₁ G₁ R₁ I₁ => ?_
  refine hit s₁ g₁ v E' _ I₁.le R₁ fun II h' fp n P St hk W => ?_
  intro E'' Q' q
  have hn : n = 0 := W.len
  subst hn
  refine W.walks.done _ _ _ W.start fun h'' tk hk2 => ?_
  refine q _ g₁ (G₁.trans (Grow.keep (tk := tk) I₁.le fun b o e => hk2 b o ?_ (hk b o e)))
  simp
  rintro rfl
  rw [W.new] at e; cases e

theorem exL_ifF {t b o : Expr} {pos : Pos} {l : List PV} (ht : Tr w A env V t false) (h2 : ExL w A env V o l) : ExL w A env V (.IfExp t b o pos) l := by
  intro s g E I
  refine wpAny_IfExp (ht.run I fun s₁ g₁ G₁ I₁ => ?_)
  refine wpAny_mono (h2 s₁ g₁ E I₁) (fun v s₂ h => ?_) fun _ _ x => x
  obtain ⟨a, vs, n, e1, e2, e3, e4, e5⟩ := h
  exact ⟨a, vs, n, e1, keeps_trans G₁.keeps e2, get_back G₁ e3, e4, e5⟩
theorem ex_typeMut {x y : Str} {np nq pos : Pos} {a : Addr} {l : List PV} (hx : (x, .mut a l) ∈ V) (hf : Ex w A env V (.Name y np) (.val (.type "type"))) (hd : (x == ("__debug__" : Str)) = false := by decide) (hb : backTo pos (starEach [.Name x nq] env) = [(false, eval (.Name x nq) env)] := by rfl) :
    Ex w A env V (.Call (.Name y np) [.Name x nq] [] pos) (.val (.type "list")) := by
  intro s g E I
  refine wpAny_Call_NameR (hf.run I fun v s₁ g₁ G₁ R₁ I₁ => ?_)
  cases (show Rep g₁ v (.val _) from R₁)
  refine PySem.callWith_type (by rw [hb]; rfl) ?_
  rw [hb]
  refine evalArgs_plain (spliced_cons ?_)
  refine (ex_name hx hd).run I₁ fun u s₂ g₂ G₂ R₂ I₂ => spliced_nil ?_
  obtain ⟨rfl, vs, n, oa, rs⟩ := R₂
  exact call_type_of ⟨_, oa, rfl⟩ (by decide +kernel) ⟨g₂, G₁.trans G₂, Rep.val _⟩

theorem under_ok {k : Nat} {C : Addr} {vals : List Value} (h : AOk (k + 1) A) : AOk k (A.under (.builtin "type.__call__" ⟨.ref C :: vals, []⟩)) :=
  ⟨h.1, by have := h.2.1; show A.depth + 1 + k ≤ 900; omega, by have := h.2.2; show A.units + 1 + 10 * k ≤ 9000; omega⟩

set_option maxHeartbeats 4000000 in
theorem make_run {k : Nat} {Q : Value → Shared → Prop} (hA : AOk (k + 2) A) (le : Le g s.heap) (B : Base w s.heap)
    (kk : ∀ s' g' x H, Grow s g s' g' → g' H = none → s.heap.get? H = none → Rep g' (.ref x) (.obj H) → (∃ m, s'.heap.get? H = some { cls := .type "list", data := .seq #[] m }) → Q (.ref x) s') :
    wpAny (MM w) A (call (.ref 182) []) Q E s := by
  refine wpAny_call ?_
  obtain ⟨h, gens, dr, t, os⟩ := s
  have B' : Base w h := B
  have le' : Le g h := le
  refine make_core (makes_of B'.k (makes_hdr _)) (looks_findIn B'.k (find_init _)) (fun self => bind_fn B'.k self (by rfl)) (.inl rfl) ?_
  have hx1 : ((h.push emptyDict).push (instObj 182 h.objs.size)).get? (h.objs.size + 1) = some (instObj 182 h.objs.size) := by heap_get
  have hd1 : ((h.push emptyDict).push (instObj 182 h.objs.size)).get? h.objs.size = some emptyDict := by heap_get
  have kp : ∀ b o, h.get? b = some o → ((h.push emptyDict).push (instObj 182 h.objs.size)).get? b = some o := fun b o e => Heap.get?_push_of_some _ (Heap.get?_push_of_some _ e)
  have nx : h.get? (h.objs.size + 1) = none := by
    cases e : h.get? (h.objs.size + 1) with
    | none => rfl
    | some o => exact absurd (Heap.lt_size e) (Nat.not_lt.mpr (Nat.le_succ _))
  have nd : h.get? h.objs.size = none := get_size_none _
  have gd : g h.objs.size = none := by
    cases e : g h.objs.size with
    | none => rfl
    | some o => rw [le' _ _ e] at nd; cases nd
  have G1 : Grow ⟨h, gens, dr, t, os⟩ g ⟨(h.push emptyDict).push (instObj 182 h.objs.size), gens, dr, t, os⟩ (gadd g (h.objs.size + 1) (instObj 182 h.objs.size)) := Grow.new (s := ⟨h, gens, dr, t, os⟩) (tk := t) le kp nx hx1
  refine call_code (args := ⟨[.ref (h.objs.size + 1)], []⟩) (xs := [Str.ofString "self", Str.ofString "headers"]) (ps := [.val (.ref (h.objs.size + 1)), .none]) (under_ok hA) (by rfl) rfl rfl rfl (by rfl) (by decide) (by rfl) rfl rfl rfl rfl rfl rfl (B.mono G1.get)
    (g := gadd g (h.objs.size + 1) (instObj 182 h.objs.size)) ?bind ?_
  case bind =>
    refine (BindsTo.of_defaults (binds := [(Str.ofString "self", .ref (h.objs.size + 1)), (Str.ofString "headers", .none)]) (T := 69) rfl ((B.mono G1.get).k 69 _ (by rfl)) rfl rfl rfl) _ _ _ _ ⟨_, [.ref (h.objs.size + 1), .none], Grow.refl G1.le, rfl, rfl, .cons (.val _) (.cons .none .nil)⟩
  intro L s₀ g₀ s' g' E' G S hA'
  have hh := hA'.1
  replace S : SInv w s₀ g₀ _ [] g₀ s' g' [(Str.ofString "self", .val (.ref (h.objs.size + 1))), (Str.ofString "headers", .none)] := S
  have dne : h.objs.size ≠ h.objs.size + 1 := Nat.ne_of_lt (Nat.lt_succ_self _)
  have S := S.holdOld (G1.trans G) B (G.get _ _ hd1) (G.stays hd1 (by rw [gadd_ne dne]; exact gd)) nd
  have hgx : g₀ (h.objs.size + 1) = some (instObj 182 h.objs.size) := G.sub _ _ gadd_self
  refine st_assignL S (exL_ifF (tr_cmp cm_isnot_nonenone (ex_name (by walk_at "mem")) ex_none) (exL_list (ps := []) exs_nil (by decide) flat_nil)) (by rfl) fun H s₁ g₁ S₁ => ?_
  refine st_if (c := false) S₁ (tr_cmp (cm_isnot_val (a := .type "list") (b := .type "list") (by rfl)) (ex_typeMut (a := H) (l := []) (by walk_at "mem") (ex_blt gl_type bb_type rfl)) (ex_blt gl_list bb_list rfl)) (fun h => by cases h) fun _ s₂ g₂ S₂ => st_nil ?_
  show wpAny _ _ _ _ _ _
  refine wpAny_execs_cons (plainObj_wpAny_Assign_Attribute ((ex_name (p := .mut H []) (by walk_at "mem")).run S₂.inv fun u s₃ g₃ G₃ R₃ I₃ => (ex_name (p := .val (.ref (h.objs.size + 1))) (by walk_at "mem")).run I₃ fun y s₄ g₄ G₄ R₄ I₄ => ?_))
  cases (show Rep g₄ y (.val _) from R₄)
  have S₄ := (S₂.step G₃).step G₄
  obtain ⟨rfl, _⟩ := R₃
  refine setattr_run (d := h.objs.size) I₄.base (I₄.le _ _ (S₄.pin _ _ hgx)) (S₄.kept _ (.head _)).1 fun h' tk hh' tk' k' d' => ?_
  have S₅ := S₄.turnH (tk := tk) k' d'
  refine st_if (c := true) S₅ (tr_val ex_bool ty_bool) (fun _ s₆ g₆ S₆ => ?_) (fun h => by cases h)
  refine st_for0 S₆ (fun E'' => itr0 (p := .mut H []) (itr_list hh rfl) S₆.inv (by walk_at "mem") E'') fun s₇ g₇ S₇ => st_nil (st_nil ?_)
  obtain ⟨hm1, hm2, hm3⟩ := S₇.muts (Str.ofString "headers") H [] (by walk_at "mem")
  obtain ⟨u, su, e, vs, n, oa, rs⟩ := S₇.vars (Str.ofString "headers", .mut H []) (by walk_at "mem")
  obtain ⟨k1, k2, k3, k4, k5⟩ := S₇.kept _ (.head _)
  have hne : H ≠ h.objs.size := k5 (Str.ofString "headers") H [] (by walk_at "mem")
  have hvs : vs = #[] := by
    have := rs.length
    simpa using this
  subst hvs
  refine ⟨rfl, kk s₇ (gadd g₇ h.objs.size { cls := .type "dict", data := .dict #[⟨hh', .str (Str.ofString "_headers") tk', .ref H⟩] 1 }) (h.objs.size + 1) H ⟨S₇.grow.keeps, fun b o e => ?_, fun b o e => ?_, fun b o e1 e2 => ?_⟩ (by rw [gadd_ne hne]; exact hm2) hm1 (.obj (by rw [gadd_ne (Ne.symm dne)]; exact S₇.pin _ _ hgx) gadd_self) ⟨n, oa⟩⟩
  · rw [gadd_ne]; exact S₇.grow.sub b o e
    rintro rfl; rw [gd] at e; cases e
  · by_cases q : b = h.objs.size
    · subst q; rw [gadd_self] at e; cases e; exact k1
    · rw [gadd_ne q] at e; exact S₇.grow.le b o e
  · by_cases q : b = h.objs.size
    · subst q; exact nd
    · rw [gadd_ne q] at e1; exact S₇.grow.fresh b o e1 e2
end
end Mine
end
noncomputable section
open PySem PySem.W PySem.Calls PyProof.Rows
namespace Mine

local macro_rules | `(tactic| walk_at "mem") => `(tactic| first
  | with_reducible exact List.mem_cons_self
  | ((with_reducible refine List.mem_cons_of_mem _ ?_); walk_at "mem")
  | ((with_reducible refine mem_cap ?hm ?hc); (case hc => rfl); (case hm => walk_at "mem"))
  | with_reducible exact mem_upd_self
  | ((with_reducible refine mem_upd ?hm ?hc); (case hc => rfl); (case hm => walk_at "mem")))
local macro_rules | `(tactic| walk_at "sub") => `(tactic| first
  | with_reducible exact sub_nil
  | ((with_reducible refine sub_cons ?hm ?hc); (case hc => walk_at "sub"); (case hm => walk_at "mem")))

def okText (x : Str) : Bool := srFail codeN x && srFail codeV x && srFail codeN (Txt.lower x) && decide (x.cps.size ≤ 900) && decide ((Txt.lower x).cps.size ≤ 900) && PyData.strOk x && (Txt.lower (Txt.lower x) == Txt.lower x)
theorem okText_n {x : Str} (h : okText x = true) : srFail codeN x = true := by simp only [okText, Bool.and_eq_true] at h; exact h.1.1.1.1.1.1
theorem okText_v {x : Str} (h : okText x = true) : srFail codeV x = true := by simp only [okText, Bool.and_eq_true] at h; exact h.1.1.1.1.1.2
theorem okText_l {x : Str} (h : okText x = true) : srFail codeN (Txt.lower x) = true := by simp only [okText, Bool.and_eq_true] at h; exact h.1.1.1.1.2
theorem okText_z {x : Str} (h : okText x = true) : x.cps.size ≤ 900 := by simp only [okText, Bool.and_eq_true, decide_eq_true_eq] at h; exact h.1.1.1.2
theorem okText_y {x : Str} (h : okText x = true) : (Txt.lower x).cps.size ≤ 900 := by simp only [okText, Bool.and_eq_true, decide_eq_true_eq] at h; exact h.1.1.2
theorem okText_s {x : Str} (h : okText x = true) : PyData.strOk x = true := by simp only [okText, Bool.and_eq_true] at h; exact h.1.2
theorem okText_i {x : Str} (h : okText x = true) : Txt.lower (Txt.lower x) = Txt.lower x := by simp only [okText, Bool.and_eq_true, beq_iff_eq] at h; exact h.2
def tAt (T : List Str) (i : Int) : Str := T.getD i.toNat Str.empty
def tabF (T : List Str) (r : Int) (ms : List Int) : List (Str × Str) := ms.map fun v => (tAt T (Builtin.bitAnd v r), tAt T v)
theorem tAt_mem {T : List Str} {i : Int} (h0 : 0 ≤ i) (h : i < T.length) : tAt T i ∈ T := by
  unfold tAt
  have : i.toNat < T.length := by omega
  rw [List.getD_eq_getElem?_getD, List.getElem?_eq_getElem this]
  exact List.getElem_mem ..

section
variable {w : World} {A : Around} {env : Env} {V : Vars} {s₀ s : Shared} {g₀ g : Gm} {ks : List (Addr × Obj)} {gp : Gm} {E : Value → Shared → Prop} {Q : Flow → Shared → Prop} {rest : List Stmt}

theorem ex_tAt {value slice : Expr} {pos : Pos} {T : List Str} {i : Int} (hv : Ex w A env V value (.list (PS T))) (hi : Ex w A env V slice (.int i)) (h0 : 0 ≤ i) (h1 : i < T.length) (h2 : T.length ≤ 1000)
    (hs : ∀ o iv, subscripted slice false o iv = operate [o, iv] (getItem o iv) := by intro _ _; rfl) : Ex w A env V (.Subscript value slice pos) (.str (tAt T i)) :=
  ex_sub hv rfl hi h0 (by omega) (ps_get (by omega)) hs

theorem SInv.perm {ks' : List (Addr × Obj)} (S : SInv w s₀ g₀ env ks gp s g V) (h : ∀ p ∈ ks', p ∈ ks) : SInv w s₀ g₀ env ks' gp s g V := { S with kept := fun p hp => S.kept p (h p hp) }

theorem SInv.swap2 {p q : Addr × Obj} (S : SInv w s₀ g₀ env [p, q] gp s g V) : SInv w s₀ g₀ env [q, p] gp s g V := S.perm fun r hr => by
  cases hr with
  | head => exact .tail _ (.head _)
  | tail _ hr => cases hr with
    | head => exact .head _
    | tail _ hr => cases hr

theorem st_make {k : Nat} {x : Str} {px np cpos pos : Pos} (hA : AOk (k + 2) A) (S : SInv w s₀ g₀ env [] gp s g V) (hx : slotB env x = true) (hk : env.kindOf (Str.ofString "Headers") = some .globalImplicit)
    (kk : ∀ H m s' g', SInv w s₀ g₀ env [(H, { cls := .type "list", data := .seq #[] m })] gp s' g' (upd x (.obj H) V) → wpAny (MM w) A (execs rest env) Q E s')
    (hsw : swapsWith (.Call (.Name (Str.ofString "Headers") np) [] [] cpos) (some (.Name x px)) pos.line env = pure false := by rfl) :
    wpAny (MM w) A (execs (.Assign [.Name x px] (.Call (.Name (Str.ofString "Headers") np) [] [] cpos) pos :: rest) env) Q E s := by
  refine wpAny_execs_cons (wpAny_Assign_Name (wpAny_Call_NameR ((ex_glob (p := .val (.ref 182)) gl_Headers (fun g => .val _) hk).run S.inv fun v s₁ g₁ G₁ R₁ I₁ => ?_)) hsw)
  cases (show Rep g₁ v (.val _) from R₁)
  have S₁ := S.step G₁
  refine callWith_KW0 (kws := []) I₁.base.k (by kernel_rfl) (by rfl) (kwAll_nil ⟨I₁.base.k, ?_⟩)
  refine make_run hA I₁.le I₁.base fun s₂ g₂ y H G₂ gH nH R₂ hm => ?_
  obtain ⟨m, hm⟩ := hm
  obtain ⟨f1, f2, f3, f4, f5⟩ := fresh_apart S₁ nH
  have S₂ := S₁.step G₂
  have S₃ : SInv w s₀ g₀ env [(H, { cls := .type "list", data := .seq #[] m })] gp s₂ g₂ V := by
    refine { S₂ with kept := fun p hp => ?_ }
    cases hp with
    | head => exact ⟨hm, f1, gH, f3, f4⟩
    | tail _ hp => cases hp
  exact S₃.storeF hx R₂ fun s₃ S₄ => kk H m s₃ g₂ S₄

/-- the held list is frozen, the object is whole -/
theorem SInv.whole {H : Addr} {o : Obj} {x : Str} {vs : Array Value} {m : Nat} {ents : List (Str × Str)} (S : SInv w s₀ g₀ env [(H, o)] gp s g V) (ho : o = { cls := .type "list", data := .seq vs m }) (rs : Reps g vs.toList (hents ents)) (hx : (x, .obj H) ∈ V) :
    ∃ g', SInv w s₀ g₀ env [] gp s g' (upd x (.hdr ents) V) := by
  subst ho
  obtain ⟨k1, k2, k3, k4, k5⟩ := S.kept _ (.head _)
  have sub : ∀ b o, g b = some o → gadd g H { cls := .type "list", data := .seq vs m } b = some o := fun b o e => by
    rw [gadd_ne]; exact e
    rintro rfl; rw [k3] at e; cases e
  refine ⟨gadd g H { cls := .type "list", data := .seq vs m }, S.base₀, ⟨S.grow.keeps, fun b o e => sub b o (S.grow.sub b o e), fun b o e => ?_, fun b o e1 e2 => ?_⟩, S.kind, S.globals, S.builtins, fun q hq => ?_, S.ns, S.nL, ?_, fun n c hc => ?_, S.apart, fun b o e => sub b o (S.pin b o e), fun y b l hm => ?_, fun p hp => nomatch hp⟩
  · by_cases q : b = H
    · subst q; rw [gadd_self] at e; cases e; exact k1
    · rw [gadd_ne q] at e; exact S.grow.le b o e
  · by_cases q : b = H
    · subst q; exact k2
    · rw [gadd_ne q] at e1; exact S.grow.fresh b o e1 e2
  · rcases of_mem_upd hq with rfl | ⟨hq, hne⟩
    · obtain ⟨u, su, ru⟩ := S.vars _ hx
      cases (show Rep g u (.obj H) from ru) with
      | obj h1 h2 => exact ⟨_, su, Rep.hdr (.obj (sub _ _ h1) (sub _ _ h2)) (Rep.list gadd_self rfl rfl (rs.mono sub))⟩
    · obtain ⟨u, su, ru⟩ := S.vars q hq
      exact ⟨u, su, ru.mono (fun _ _ e => e) sub⟩
  · rw [gadd_ne (Ne.symm k4.1)]; exact S.gL
  · obtain ⟨c1, c2, c3, c4⟩ := S.cells n c hc
    exact ⟨c1, c2, by rw [gadd_ne (Ne.symm (k4.2 _ _ hc))]; exact c3, c4⟩
  · rcases of_mem_upd hm with e | ⟨hm', hne⟩
    · cases e
    · obtain ⟨m1, m2, m3⟩ := S.muts y b l hm'
      exact ⟨m1, by rw [gadd_ne (k5 y b l hm')]; exact m2, m3⟩

def LstAt (H : Addr) (ents : List (Str × Str)) (g : Gm) (ks : List (Addr × Obj)) : Prop := ∃ vs m, ks = [(H, { cls := .type "list", data := .seq vs m })] ∧ Reps g vs.toList (hents ents)

set_option maxHeartbeats 4000000 in
theorem fn_table {k : Nat} (hA : AOk (k + 3) A) (ms : List Int) (T : List Str) (r : Int) (hT : ∀ x ∈ T, okText x = true) (hTl : T.length = 8) (hm : ∀ v ∈ ms, 0 ≤ v ∧ v < 8) (hr : ∀ v ∈ ms, 0 ≤ Builtin.bitAnd v r ∧ Builtin.bitAnd v r < 8) (hn : ms.length ≤ 1000) :
    Fn w A (.ref 232) [.list (PI ms), .list (PS T), .int r] (.hdr (tabF T r ms)) := by
  refine fn_intro (xs := [Str.ofString "members", Str.ofString "texts", Str.ofString "rest"]) hA (by rfl) rfl rfl rfl (by rfl) ?bind rfl (by decide) (by rfl) rfl rfl rfl rfl rfl rfl ?_
  case bind => intro vs h; match vs, h with | [v, u, z], _ => rfl
  intro L s₀ g₀ s g E S hA'
  have hh := hA'.1
  replace S : SInv w s₀ g₀ _ [] g₀ s g [(Str.ofString "members", .list (PI ms)), (Str.ofString "texts", .list (PS T)), (Str.ofString "rest", .int r)] := S
  refine st_make hA' S (by rfl) rfl fun H m s₁ g₁ S₁ => ?_
  refine st_forK PV.int (xs := ms) (fun _ => [(Str.ofString "texts", .list (PS T)), (Str.ofString "rest", .int r), (Str.ofString "table", .obj H)]) (fun i g ks => LstAt H (tabF T r (ms.take i)) g ks) [H]
    (fun i g ks h => by obtain ⟨vs, m, rfl, _⟩ := h; rfl) (fun i g g' ks sub h => by obtain ⟨vs, m, e, rs⟩ := h; exact ⟨vs, m, e, rs.mono sub⟩) ⟨#[], m, rfl, .nil⟩ S₁ (ex_name (p := .list (PI ms)) (by walk_at "mem")) (itrF_list hh) (by rfl)
    (by walk_at "sub") (fun i v I ob gp' s₂ g₂ E₂ hi hgp ks' hK hkI S₂ => ?_) fun s₂ g₂ E₂ ks' hK S₂ => ?_
  · obtain ⟨vs, m, rfl, rs⟩ := hK
    have hv : v ∈ ms := List.mem_of_getElem? hi
    obtain ⟨v0, v8⟩ := hm v hv
    obtain ⟨r0, r8⟩ := hr v hv
    have t1 := hT _ (tAt_mem (T := T) r0 (by omega))
    have t2 := hT _ (tAt_mem (T := T) v0 (by omega))
    refine wpAny_execs_cons (wpAny_Expr_any (methodCall_KW ((ex_name (p := .obj H) (by walk_at "mem")).run S₂.inv fun ov s₃ g₃ G₃ R₃ I₃ => ?_)) (by rfl) rfl)
    have S₃ := S₂.step G₃
    obtain ⟨x, l, rfl, Ro⟩ := inst_obj _ _ _ R₃
    have Rx : Rep g₃ (.ref x) (.obj H) := R₃
    obtain ⟨d, hh', tk, n, Ia⟩ := Rx.inst I₃.le
    refine method_fn I₃.base.k Ia (find_ga _) (find_gt _) (find_add _) (by rfl) (by rfl) ?_
    refine callWith_KW I₃.base.k (by rfl) (by rfl) ((exs_cons (ex_tAt (T := T) (ex_name (by walk_at "mem")) (ex_bin bi_and (ex_name (p := .int v) (by walk_at "mem")) (ex_name (p := .int r) (by walk_at "mem"))) r0 (by omega) (by omega)) (exs_cons (ex_tAt (T := T) (ex_name (by walk_at "mem")) (ex_name (p := .int v) (by walk_at "mem")) v0 (by omega) (by omega)) exs_nil)).run I₃ fun us s₄ g₄ G₄ R₄ I₄ => ?_) (by rfl) (by rfl)
    refine kwAll_nil ⟨I₄.base.k, ?_⟩
    have S₄ := S₃.step G₄
    cases R₄ with
    | cons r1 q1 =>
      cases q1 with
      | cons r2 q2 =>
        cases q2; cases r1; cases r2
        obtain ⟨k1, k2, k3, k4, k5⟩ := S₄.kept (H, _) (.tail _ (.head _))
        refine add_run (x := x) (H := H) (ents := tabF T r (ms.take i)) hA' I₄.le I₄.base (Rx.mono G₄.sub) k1 (rs.mono fun a o e => G₄.sub _ _ (G₃.sub _ _ e)) (okText_n t1) (okText_v t2) (by have := okText_z t1; omega) (by have := okText_z t2; omega) (by have := okText_z t2; exact Nat.le_trans this (by omega)) ?_ ?_
        · simp [tabF]; omega
        · intro s₅ g₅ h' vs' m' G₅ kp oH rs'
          have S₅ := S₄.step G₅
          have S₆ := S₅.swap2.turn (tk := s₅.toks) (fun p hp => by simp at hp; subst hp; exact Ne.symm (hkI (H, _) (.head _))) kp oH
          have S₇ := S₆.swap2
          refine st_nil ⟨g₅, _, ⟨vs', m', rfl, ?_⟩, S₇.less (by walk_at "sub")⟩
          have e : ms.take (i + 1) = ms.take i ++ [v] := by
            rw [List.take_add_one, hi]; rfl
          rw [e]
          simpa [tabF] using rs'
  · refine st_nil ?_
    show wpAny _ _ _ _ _ _
    obtain ⟨vs, m, rfl, rs⟩ := hK
    rw [List.take_length] at rs
    obtain ⟨g₃, S₃⟩ := S₂.whole (x := Str.ofString "table") rfl rs (by walk_at "mem")
    exact st_return S₃ (ex_name (by walk_at "mem")) rfl
end
end Mine
end
noncomputable section
open PySem PySem.W PySem.Calls PyProof.Rows
namespace Mine

local macro_rules | `(tactic| walk_at "mem") => `(tactic| first
  | with_reducible exact List.mem_cons_self
  | ((with_reducible refine List.mem_cons_of_mem _ ?_); walk_at "mem")
  | ((with_reducible refine mem_cap ?hm ?hc); (case hc => rfl); (case hm => walk_at "mem"))
  | with_reducible exact mem_upd_self
  | ((with_reducible refine mem_upd ?hm ?hc); (case hc => rfl); (case hm => walk_at "mem")))

def seenIn (ds : List Int) (v m : Int) : Bool := !((ds.map fun x => Builtin.bitAnd x m).any (· == Builtin.bitAnd v m))
def memberB (ds : List Int) (v : Int) : Bool := decide (([3, 5, 6] : List Int).filter (seenIn ds v) = [])
def membersF (ds : List Int) : List Int := (rInts 0 1 8).filter (memberB ds)

section
variable {w : World} {A : Around}
theorem fn_members {k : Nat} (hA : AOk (k + 1) A) (ds : List Int) (hn : ds.length ≤ 1000) : Fn w A (.ref 220) [.list (PI ds)] (.list (PI (membersF ds))) := by
  refine fn_intro (xs := [Str.ofString "drawn"]) hA (by rfl) rfl rfl rfl (by rfl) ?bind rfl (by decide) (by rfl) rfl rfl rfl rfl rfl rfl ?_
  case bind => intro vs h; match vs, h with | [v], _ => rfl
  intro L s₀ g₀ s g E S hA'
  have hh := hA'.1
  replace S : SInv w s₀ g₀ _ [] g₀ s g [(Str.ofString "drawn", .list (PI ds))] := S
  refine st_return S ?_ rfl
  refine Ex.eq (ex_comp PV.int (memberB ds) PV.int (ex_callT (ex_blt gl_range bb_range rfl) (exs_cons ex_int exs_nil) fn_range1) (itr_range (n := 8) hh rfl rfl) (fun C v hv => tf_one ?_) (fun C v hv _ => ex_name (by walk_at "mem")) (fun _ _ _ => rfl) (by decide) (.inr rfl)) rfl
  refine tr_cmp (cm_eq_ints (p := .list (PI (([3, 5, 6] : List Int).filter (seenIn ds v)))) (q := .list (PI [])) rfl rfl (by have := hA'.2.2; show _ < 9900; omega)) ?_ (ex_list exs_nil)
  refine Ex.eq (ex_comp PV.int (seenIn ds v) PV.int (xs := ([3, 5, 6] : List Int)) (ex_list (exs_cons ex_int (exs_cons ex_int (exs_cons ex_int exs_nil)))) (itr_list hh rfl) (fun C' m hm => tf_one ?_) (fun C' m hm _ => ex_name (by walk_at "mem")) (fun _ _ _ => rfl) (by decide) (.inr rfl)) rfl
  refine tr_cmp (cm_notin_ints (q := .list (ds.map fun x => .int (Builtin.bitAnd x m))) (m := ds.map fun x => Builtin.bitAnd x m) (by simp [PV.items, PI])) (ex_bin bi_and (ex_name (by walk_at "mem")) (ex_name (by walk_at "mem"))) ?_
  exact ex_compM PV.int (fun x => .int (Builtin.bitAnd x m)) (xs := ds) (ex_name (p := .list (PI ds)) (by walk_at "mem")) (itr_list hh rfl) (fun C'' x hx => ex_bin bi_and (ex_name (by walk_at "mem")) (ex_name (by walk_at "mem"))) (fun _ _ => rfl) (by omega) (.inl rfl)
end
end Mine
end
noncomputable section
open PySem PySem.W PySem.Calls PyProof.Rows
namespace Mine

local macro_rules | `(tactic| walk_at "mem") => `(tactic| first
  | with_reducible exact List.mem_cons_self
  | ((with_reducible refine List.mem_cons_of_mem _ ?_); walk_at "mem")
  | ((with_reducible refine mem_cap ?hm ?hc); (case hc => rfl); (case hm => walk_at "mem"))
  | with_reducible exact mem_upd_self
  | ((with_reducible refine mem_upd ?hm ?hc); (case hc => rfl); (case hm => walk_at "mem")))

def restF (kept part : Int) : Int := Builtin.bitAnd kept (Builtin.bitNot part)
def sizeL : List Int := [0, 1, 1, 2, 1, 2, 2, 3]
def sizeAt (part : Int) : Int := sizeL.getD part.toNat 0
def offRest (r v : Int) : Bool := Builtin.bitAnd v (Builtin.bitNot r) == 0
def cornersF (r : Int) : List Int := (rInts 0 1 8).filter (offRest r)
def fullAt (T : List Str) (ms : List Int) (r sz v : Int) : Bool := ((getAllF (tabF T r ms) (Txt.lower (Txt.lower (tAt T v)))).length : Int) == 2 ^ sz.toNat
def wholeF (T : List Str) (ms : List Int) (kept part : Int) : Int := (((cornersF (restF kept part)).filter (fullAt T ms (restF kept part) (sizeAt part))).length : Int)

theorem rInts_mem {n : Nat} {v : Int} (h : v ∈ rInts 0 1 n) : 0 ≤ v ∧ v < n := by
  obtain ⟨i, hi⟩ := List.mem_iff_getElem?.mp h
  obtain ⟨a, rfl⟩ := rInts_get hi
  omega
theorem sizeAt_ok {p : Int} (h0 : 0 ≤ p) (h8 : p < 8) : 0 ≤ sizeAt p ∧ sizeAt p ≤ 3 := by
  unfold sizeAt
  have : ∀ i, i < 8 → 0 ≤ sizeL.getD i 0 ∧ sizeL.getD i 0 ≤ 3 := by decide
  exact this p.toNat (by omega)
theorem bits_two : Builtin.Int.intBits 2 = 2 := by decide +kernel
theorem getAllF_len {T : List Str} {r : Int} {ms : List Int} {x : Str} : (getAllF (tabF T r ms) x).length ≤ ms.length := by
  unfold getAllF
  rw [List.length_map]
  refine Nat.le_trans (List.length_filter_le _ _) ?_
  simp [tabF]

section
variable {w : World} {A : Around}
theorem tabF_names {T : List Str} {r : Int} {ms : List Int} (hT : ∀ x ∈ T, okText x = true) (hTl : T.length = 8) (hr : ∀ v ∈ ms, 0 ≤ Builtin.bitAnd v r ∧ Builtin.bitAnd v r < 8) : ∀ e ∈ tabF T r ms, e.1.length ≤ 100000 := fun e he => by
  obtain ⟨v, hv, rfl⟩ := List.mem_map.mp he
  obtain ⟨a, b⟩ := hr v hv
  have := okText_z (hT _ (tAt_mem (T := T) a (by omega)))
  exact Nat.le_trans this (by omega)

set_option maxHeartbeats 4000000 in
theorem fn_whole {k : Nat} (hA : AOk (k + 4) A) (ms : List Int) (T : List Str) (kept part : Int) (hT : ∀ x ∈ T, okText x = true) (hTl : T.length = 8) (hm : ∀ v ∈ ms, 0 ≤ v ∧ v < 8) (hr : ∀ v ∈ ms, 0 ≤ Builtin.bitAnd v (restF kept part) ∧ Builtin.bitAnd v (restF kept part) < 8) (hn : ms.length ≤ 1000)
    (hp0 : 0 ≤ part) (hp8 : part < 8) : Fn w A (.ref 237) [.list (PI ms), .list (PS T), .int kept, .int part] (.int (wholeF T ms kept part)) := by
  refine fn_intro (xs := [Str.ofString "members", Str.ofString "texts", Str.ofString "kept", Str.ofString "part"]) hA (by rfl) rfl rfl rfl (by rfl) ?bind rfl (by decide) (by rfl) rfl rfl rfl rfl rfl rfl ?_
  case bind => intro vs h; match vs, h with | [v, u, z, y], _ => rfl
  intro L s₀ g₀ s g E S hA'
  have hh := hA'.1
  replace S : SInv w s₀ g₀ _ [] g₀ s g [(Str.ofString "members", .list (PI ms)), (Str.ofString "texts", .list (PS T)), (Str.ofString "kept", .int kept), (Str.ofString "part", .int part)] := S
  refine st_assign S (p := .int (restF kept part)) (ex_bin bi_and (ex_name (by walk_at "mem")) (ex_inv (ex_name (by walk_at "mem")))) rfl (by rfl) fun s₁ g₁ S₁ => ?_
  refine st_assign S₁ (ex_callF (ex_glob gl_law_table (fun g => .val _) rfl) (exs_cons (ex_name (p := .list (PI ms)) (by walk_at "mem")) (exs_cons (ex_name (p := .list (PS T)) (by walk_at "mem")) (exs_cons (ex_name (p := .int (restF kept part)) (by walk_at "mem")) exs_nil))) (fn_table hA' ms T (restF kept part) hT hTl hm hr hn) (by rfl) rfl) rfl (by rfl) fun s₂ g₂ S₂ => ?_
  refine st_assign S₂ (p := .int (sizeAt part)) (ex_sub (p := .list (PI sizeL)) (l := PI sizeL) (i := part) (ex_list (exs_cons ex_int (exs_cons ex_int (exs_cons ex_int (exs_cons ex_int (exs_cons ex_int (exs_cons ex_int (exs_cons ex_int (exs_cons ex_int exs_nil)))))))) (by decide)) rfl (ex_name (by walk_at "mem")) hp0 (by omega) (pi_get (by show _ < 8; omega))) rfl (by rfl) fun s₃ g₃ S₃ => ?_
  refine st_comp PV.int (offRest (restF kept part)) PV.int (xs := rInts 0 1 8) S₃ (ex_callT (ex_blt gl_range bb_range rfl) (exs_cons ex_int exs_nil) fn_range1) (itr_range (n := 8) hh rfl rfl) (fun C v hv => tf_one (tr_cmp cm_eq_int (ex_bin bi_and (ex_name (by walk_at "mem")) (ex_inv (ex_name (by walk_at "mem")))) ex_int)) (fun C v hv _ => ex_name (by walk_at "mem")) (fun _ _ _ => rfl) (by decide) (.inl rfl) (by rfl) fun s₄ g₄ S₄ => ?_
  replace S₄ : SInv w s₀ g₀ _ [] g₀ s₄ g₄ (upd (Str.ofString "corners") (.list (PI (cornersF (restF kept part)))) _) := S₄
  have hcl : (cornersF (restF kept part)).length ≤ 8 := Nat.le_trans (List.length_filter_le _ _) (by decide)
  have sz := sizeAt_ok hp0 hp8
  have ents := tabF_names (ms := ms) hT hTl hr
  refine st_return (p := .int (wholeF T ms kept part)) S₄ ?_ rfl
  refine Ex.eq (ex_len (l := PI ((cornersF (restF kept part)).filter (fullAt T ms (restF kept part) (sizeAt part)))) (ex_blt gl_len bb_len rfl) ?_ (by rw [pi_len]; exact Nat.le_trans (List.length_filter_le _ _) (by omega))) (by rw [pi_len]; rfl)
  refine Ex.eq (ex_comp PV.int (fullAt T ms (restF kept part) (sizeAt part)) PV.int (xs := cornersF (restF kept part)) (ex_name (p := .list (PI (cornersF (restF kept part)))) (by walk_at "mem")) (itr_list hh rfl) (fun C v hv => tf_one ?_) (fun C v hv _ => ex_name (by walk_at "mem")) (fun _ _ _ => rfl) (by omega) (.inl rfl)) rfl
  obtain ⟨v0, v8⟩ := rInts_mem (List.mem_filter.mp hv).1
  have t1 := hT _ (tAt_mem (T := T) v0 (by omega))
  refine tr_cmp (cm_eq_int (i := ((getAllF (tabF T (restF kept part) ms) (Txt.lower (Txt.lower (tAt T v)))).length : Int)) (j := 2 ^ (sizeAt part).toNat)) ?_ (ex_bin (bi_pow sz.1 (by rw [bits_two]; omega)) ex_int (ex_name (by walk_at "mem")))
  refine Ex.eq (ex_len (l := PS (getAllF (tabF T (restF kept part) ms) (Txt.lower (Txt.lower (tAt T v))))) (ex_blt gl_len bb_len rfl) ?_ (by rw [ps_len]; have := getAllF_len (T := T) (r := restF kept part) (ms := ms) (x := Txt.lower (Txt.lower (tAt T v))); omega)) (by rw [ps_len])
  refine ex_methI (f := 121) (ex_name (p := .hdr (tabF T (restF kept part) ms)) (by walk_at "mem")) inst_hdr rfl (exs_cons (ex_lower (ex_tAt (T := T) (ex_name (by walk_at "mem")) (ex_name (p := .int v) (by walk_at "mem")) v0 (by omega) (by omega)) (by have := okText_z t1; exact Nat.le_trans this (by omega))) exs_nil) (fn_getAll hA' (tabF T (restF kept part) ms) (Txt.lower (tAt T v)) (by have := okText_y t1; exact Nat.le_trans this (by omega)) (by rw [okText_i t1]; exact okText_l t1) (by rw [okText_i t1]; have := okText_y t1; omega) ents (by simp [tabF]; omega)) (find_all _) (by rfl) (by rfl) (by decide)
end
end Mine
end
noncomputable section
open PySem PySem.W PySem.Calls PyProof.Rows
namespace Mine
section
variable {w : World} {A : Around} {env : Env} {V : Vars}
theorem fn_split {x y : Str} (hy : (y.length == 0) = false) (hx : x.length ≤ 100000) (hn : (Txt.split x y).length ≤ 100000) : Fn w A (.builtin "str.split") [.str x, .str y] (.list (PS (Txt.split x y))) := by
  intro s g vs E le B R
  cases R with
  | cons h r =>
    cases r with
    | cons h2 r =>
      cases r; cases h; cases h2
      have one : ∀ (t : Tok), Reps (gadd g s.heap.objs.size { cls := .type "list", data := .seq #[.str x t] }) [.str x t] (PS [x]) := fun t => .cons (.str _ _) .nil
      unfold Txt.split at hn ⊢
      split at hn
      · rename_i h1
        exact call_meets PySem.F.slot_str_split (typeIs_str _ _ _) PySem.F.entry_str_split (PySem.F.args_str_split_2 _ _) (meets_str_split_cannot_occur x y _ _ h1) ⟨gadd g s.heap.objs.size _, Grow.push (tk := s.toks) le, by rw [if_pos h1]; exact Rep.list gadd_self rfl rfl (one _)⟩
      · rename_i h1
        rw [Bool.not_eq_true] at h1
        split at hn
        · rename_i hf
          exact call_meets PySem.F.slot_str_split (typeIs_str _ _ _) PySem.F.entry_str_split (PySem.F.args_str_split_2 _ _) (meets_str_split_not_found x y _ _ h1 hy hf) ⟨gadd g s.heap.objs.size _, Grow.push (tk := s.toks) le, by rw [if_neg (by rw [h1]; decide), if_pos hf]; exact Rep.list gadd_self rfl rfl (one _)⟩
        · rename_i hf
          rw [Bool.not_eq_true] at hf
          refine call_meets PySem.F.slot_str_split (typeIs_str _ _ _) PySem.F.entry_str_split (PySem.F.args_str_split_2 _ _) (meets_str_split_sep x y _ _ h1 hy hf (by rw [sizeLine_eq]; omega) (by rw [sizeLine_eq]; omega)) ⟨gadd g s.heap.objs.size _, Grow.push le, ?_⟩
          rw [if_neg (by rw [h1]; decide), if_neg (by rw [hf]; decide)]
          refine Rep.list gadd_self rfl rfl ?_
          rw [strsFrom_eq]
          refine Reps.ofStrs ?_
          have := strsAre_values (numbered s.toks (Builtin.Str.partsBetween x (Builtin.Str.occurrences x y 0 x.length (x.length + 1)) y.length))
          rwa [numbered_texts] at this
theorem ex_split {o e : Expr} {apos pos : Pos} {x y : Str} (ho : Ex w A env V o (.str x)) (he : Exs w A env V pos [e] [.str y]) (hy : (y.length == 0) = false) (hx : x.length ≤ 100000) (hn : (Txt.split x y).length ≤ 100000)
    (h1 : attributeBase o (Str.ofString "split") env (eval o env) = eval o env := by rfl) (h3 : (apos.endLine == pos.line) = true := by rfl) (h4 : backTo pos (starEach [e] env) = [(false, eval e env)] := by rfl) :
    Ex w A env V (.Call (.Attribute o (Str.ofString "split") apos) [e] [] pos) (.list (PS (Txt.split x y))) :=
  ex_methS1 ho he (fn_split hy hx hn) PySem.F.slot_str_split PySem.F.type_str_split h1 h3 h4
end
end Mine
end
noncomputable section
open PySem PySem.W PySem.Calls PyProof.Rows
namespace Mine

theorem compTurn_two0 (elt t1 i1 t2 i2 : Expr) (ifs2 : List Expr) (scope : Scope) (pos : Pos) (it acc : Value) (env : Env) :
    compTurn (.ListComp elt [⟨t1, i1, [], 0⟩, ⟨t2, i2, ifs2, 0⟩] scope pos) 0 it acc env = (do
      standAt i1.pos
      match ← pyNext it with
      | none => pure (.done .next)
      | some v =>
        letOwnedTupleGo t1 it v
        assign t1 env v
        let x ← eval i2 env
        standAt i2.pos
        let x ← foldedSetIterable i2 env x
        let _ ← runOwn (.compStart (.ListComp elt [⟨t1, i1, [], 0⟩, ⟨t2, i2, ifs2, 0⟩] scope pos) 1 (← holding [x] (pyIter x)) acc env) env
        again (.compLoop (.ListComp elt [⟨t1, i1, [], 0⟩, ⟨t2, i2, ifs2, 0⟩] scope pos) 0 it acc env)) := by rfl
theorem compTurn_two1 (elt t1 i1 t2 i2 : Expr) (ifs2 : List Expr) (scope : Scope) (pos : Pos) (it acc : Value) (env : Env) :
    compTurn (.ListComp elt [⟨t1, i1, [], 0⟩, ⟨t2, i2, ifs2, 0⟩] scope pos) 1 it acc env = (do
      standAt i2.pos
      match ← pyNext it with
      | none => pure (.done .next)
      | some v =>
        letOwnedTupleGo t2 it v
        assign t2 env v
        let mut ok := true
        for c in ifs2 do
          if ok then ok ← isTrue c env (eval c env)
        if ok then
          (do let _ ← call (.builtin "list.append") [acc, ← eval elt env])
        again (.compLoop (.ListComp elt [⟨t1, i1, [], 0⟩, ⟨t2, i2, ifs2, 0⟩] scope pos) 1 it acc env)) := by rfl

section
variable {prog : Program} {w : World} {A : Around} {E : Value → Shared → Prop} {R : Result → Shared → Prop} {s : Shared}

theorem codeAny_two0 {elt t1 i1 t2 i2 : Expr} {ifs2 : List Expr} {scope : Scope} {pos : Pos} {it acc : Value} {env : Env} (I : Nat → Shared → Prop)
    (turn : ∀ n s, I n s → wpAny (model prog w) A (pyNext it) (fun r s₁ => match r with
      | none => R (.ok .next) s₁
      | some v => wpAny (model prog w) A (assign t1 env v) (fun _ s₂ => wpAny (model prog w) A (eval i2 env) (fun x s₃ => wpAny (model prog w) A (pyIter x) (fun it2 s₄ =>
          codeAny (model prog w) A (.compStart (.ListComp elt [⟨t1, i1, [], 0⟩, ⟨t2, i2, ifs2, 0⟩] scope pos) 1 it2 acc env) (fun r s' => match r with
            | .ok _ => ∃ m, m < n ∧ I m s'
            | .error e => cameBackBy (model prog w) A env (notedBy (model prog w) A env fun e s' => R (.error e) s') e s') s₄)
          (notedBy (model prog w) A env fun e s' => R (.error e) s') s₃) (notedBy (model prog w) A env fun e s' => R (.error e) s') s₂) (notedBy (model prog w) A env fun e s' => R (.error e) s') s₁) (notedBy (model prog w) A env fun e s' => R (.error e) s') s)
    (n : Nat) (h : I n s) (ht : ∀ v, letOwnedTupleGo t1 it v = pure () := by intro _; rfl) (hs : ∀ x, foldedSetIterable i2 env x = pure x := by intro _; rfl) :
    codeAny (model prog w) A (.compLoop (.ListComp elt [⟨t1, i1, [], 0⟩, ⟨t2, i2, ifs2, 0⟩] scope pos) 0 it acc env) R s := by
  refine codeAny_loop rfl I (fun n s hI => ?_) n h
  show wpAny _ A ((compTurn (.ListComp elt [⟨t1, i1, [], 0⟩, ⟨t2, i2, ifs2, 0⟩] scope pos) 0 it acc env).onRaise (fun x => do noteFrame x env; theTreesLotGoes x)) _ _ s
  refine wpAny_noted ?_
  rw [compTurn_two0]
  refine wpAny_bind (wpAny_standAt (wpAny_bind (wpAny_mono (turn n s hI) (fun r s₁ h₁ => ?_) fun _ _ h' => h')))
  cases r with
  | none => exact wpAny_pure h₁
  | some v =>
    refine wpAny_bind (wpAny_of_eq (ht v) ?_)
    refine wpAny_bind (wpAny_mono h₁ (fun _ s₂ h₂ => wpAny_bind (wpAny_mono h₂ (fun x s₃ h₃ => ?_) fun _ _ h' => h')) fun _ _ h' => h')
    refine wpAny_bind (wpAny_standAt (wpAny_bind (wpAny_of_eq (hs x) (wpAny_bind (wpAny_holding (wpAny_mono h₃ (fun it2 s₄ h₄ => ?_) fun _ _ h' => h'))))))
    refine wpAny_bind (wpAny_runOwn (codeAny_mono h₄ fun r s' z => ?_))
    cases r with
    | ok f => exact wpAny_pure ⟨rfl, z⟩
    | error e => exact z

theorem codeAny_start1 {elt t1 i1 t2 i2 : Expr} {ifs2 : List Expr} {scope : Scope} {pos : Pos} {it acc : Value} {env : Env}
    (h0 : codeAny (model prog w) A (.compLoop (.ListComp elt [⟨t1, i1, [], 0⟩, ⟨t2, i2, ifs2, 0⟩] scope pos) 1 it acc env) R s)
    (h : wpAny (model prog w) A (pyIter it) (fun it' s' => codeAny (model prog w) A (.compLoop (.ListComp elt [⟨t1, i1, [], 0⟩, ⟨t2, i2, ifs2, 0⟩] scope pos) 1 it' acc env) R s')
      (notedBy (model prog w) A env fun x s' => R (.error x) s') s) :
    codeAny (model prog w) A (.compStart (.ListComp elt [⟨t1, i1, [], 0⟩, ⟨t2, i2, ifs2, 0⟩] scope pos) 1 it acc env) R s := by
  refine codeAny_of_tree ?_
  show wpAny _ _ ((compStart (.ListComp elt [⟨t1, i1, [], 0⟩, ⟨t2, i2, ifs2, 0⟩] scope pos) 1 it acc env).onRaise (fun x => do noteFrame x env; standAt theWindowsPlace)) _ _ s
  refine wpAny_notedAt ?_
  unfold compStart
  show wpAny _ _ (ask >>= _) _ _ s
  refine wpAny_bind (wpAny_askSetting (wpAny_ite ?_))
  split
  · first
      | exact wpAny_bind (wpAny_pure (wpAny_pure (And.intro rfl h0)))
      | exact wpAny_pure (And.intro rfl h0)
  · first
      | exact wpAny_bind (wpAny_rule (wpAny_bind (wpAny_standAt (wpAny_bind (wpAny_mono h (fun it' s' h' => wpAny_pure (And.intro rfl h')) fun _ _ x => x)))))
      | (refine wpAny_bind (wpAny_rule ?_); show wpAny _ _ (standAt i2.pos >>= _) _ _ s; exact wpAny_bind (wpAny_standAt (wpAny_bind (wpAny_mono h (fun it' s' h' => wpAny_pure (And.intro rfl h')) fun _ _ x => x))))

/-- the inner loop, when no test is met -/
theorem codeAny_two1 {elt t1 i1 t2 i2 : Expr} {ifs2 : List Expr} {scope : Scope} {pos : Pos} {it acc : Value} {env : Env} (I : Nat → Shared → Prop)
    (turn : ∀ n s, I n s → wpAny (model prog w) A (pyNext it) (fun r s₁ => match r with
      | none => R (.ok .next) s₁
      | some v => wpAny (model prog w) A (assign t2 env v) (fun _ s₂ =>
          wpAny (model prog w) A (forIn ifs2 true fun c r => if r = true then do let ok ← isTrue c env (eval c env); pure (ForInStep.yield ok) else pure (ForInStep.yield r)) (fun ok s₃ => ok = false ∧ ∃ m, m < n ∧ I m s₃)
            (notedBy (model prog w) A env fun e s' => R (.error e) s') s₂) (notedBy (model prog w) A env fun e s' => R (.error e) s') s₁) (notedBy (model prog w) A env fun e s' => R (.error e) s') s)
    (n : Nat) (h : I n s) (ht : ∀ v, letOwnedTupleGo t2 it v = pure () := by intro _; rfl) :
    codeAny (model prog w) A (.compLoop (.ListComp elt [⟨t1, i1, [], 0⟩, ⟨t2, i2, ifs2, 0⟩] scope pos) 1 it acc env) R s := by
  refine codeAny_loop rfl I (fun n s hI => ?_) n h
  show wpAny _ A ((compTurn (.ListComp elt [⟨t1, i1, [], 0⟩, ⟨t2, i2, ifs2, 0⟩] scope pos) 1 it acc env).onRaise (fun x => do noteFrame x env; theTreesLotGoes x)) _ _ s
  refine wpAny_noted ?_
  rw [compTurn_two1]
  refine wpAny_bind (wpAny_standAt (wpAny_bind (wpAny_mono (turn n s hI) (fun r s₁ h₁ => ?_) fun _ _ h' => h')))
  cases r with
  | none => exact wpAny_pure h₁
  | some v =>
    refine wpAny_bind (wpAny_of_eq (ht v) ?_)
    refine wpAny_bind (wpAny_mono h₁ (fun _ s₂ h₂ => wpAny_bind (wpAny_mono h₂ (fun ok s₃ h₃ => ?_) fun _ _ h' => h')) fun _ _ h' => h')
    obtain ⟨rfl, h₃⟩ := h₃
    exact wpAny_pure ⟨rfl, h₃⟩
end
end Mine
end
noncomputable section
open PySem PySem.W PySem.Calls PyProof.Rows
namespace Mine
section
variable {w : World} {A : Around} {env : Env} {V : Vars} {s : Shared} {g : Gm} {E : Value → Shared → Prop}

set_option maxHeartbeats 4000000 in
/-- two loops, no test is ever met -/
theorem comp_two {elt i1 i2 : Expr} {x y : Str} {px py : Pos} {ifs2 : List Expr} {scope : Scope} {pos pos' : Pos} {use : Option (Value → Sem Unit)} {Q : Value → Shared → Prop} {pi : PV} {α β : Type} {xs : List α} (cc : α → PV) (cc2 : β → PV) (ys : α → List β) (p2 : α → PV)
    (hi : Ex w A env V i1 pi) (hit : Itr w A pi (xs.map cc)) (I₀ : Inv w s g env V) (hs : ∀ x, foldedSetIterable i1 env x = pure x) (hs2 : ∀ e x, foldedSetIterable i2 e x = pure x)
    (hfree : freeOk scope.names env = true) (hkind : scope.kind = .function) (hnames : ∀ y ∈ scope.names, y.2 = .local → scope.names.lookup y.1 = some .local)
    (hx : scope.names.lookup x = some .local) (hy : scope.names.lookup y = some .local)
    (hi2 : ∀ C q, q ∈ xs → Ex w A (cEnv scope env C) ((y, cc q) :: capV scope.names env V) i2 (p2 q)) (hit2 : ∀ q, q ∈ xs → ItrF w A (p2 q) ((ys q).map cc2))
    (ht : ∀ C q r, q ∈ xs → r ∈ ys q → Tf w A (cEnv scope env C) ((x, cc2 r) :: capV scope.names env V) ifs2 false)
    (k : ∀ D C s' g', Grow s g s' g' → Rep g' (.ref D) (.list []) → s.heap.get? C = none → g' C = none → (∃ m, s'.heap.Ns C m) → s.heap.get? D = none → compPost (MM w) A E use Q (.ref D) C (.ok .next) s') :
    wpAny (MM w) A (comprehension (.ListComp elt [⟨.Name y py, i1, [], 0⟩, ⟨.Name x px, i2, ifs2, 0⟩] scope pos) scope env pos' (newList []) false (eval i1 env) use) Q E s := by
  refine wpAny_comprehension_free rfl hs (closure_eq hfree) hkind hnames ?_
  refine hi.run I₀ fun xv s₁ g₁ G₁ R₁ I₁ => ?_
  refine hit s₁ g₁ xv E _ I₁.le R₁ fun I h₂ fp n P St hk₂ W => ?_
  refine wpAny_newObj_type (nfe_comp ?_)
  dsimp only
  have hI2 : ∃ o, h₂.get? I = some o := W.live 0 h₂ W.start
  generalize hD : h₂.objs.size = D
  generalize hH3 : h₂.push { cls := .type "list", dict := none, data := .seq ([] : List Value).toArray } = h₃
  have hC : h₃.objs.size = D + 1 := by rw [← hH3, Heap.size_push, hD]
  rw [hC]
  generalize hH4 : pushCells (h₃.push { cls := .type "dict", data := .dict #[] }) scope.names = h₄
  have hk₃ : ∀ b o, h₂.get? b = some o → h₃.get? b = some o := fun b o e => hH3 ▸ Heap.get?_push_of_some _ e
  have hk₄ : ∀ b o, h₃.get? b = some o → h₄.get? b = some o := fun b o e => hH4 ▸ pushCells_keeps _ _ b o (Heap.get?_push_of_some _ e)
  have hk : ∀ b o, s₁.heap.get? b = some o → h₄.get? b = some o := fun b o e => hk₄ b o (hk₃ b o (hk₂ b o e))
  have nD2 : h₂.get? D = none := hD ▸ get_size_none _
  have oD : h₄.get? D = some { cls := .type "list", dict := none, data := .seq #[] } := hk₄ _ _ (by rw [← hH3, ← hD]; exact Heap.get?_push_size _ rfl)
  have nC3 : h₃.get? (D + 1) = none := hC ▸ get_size_none _
  have nsC : h₄.Ns (D + 1) (fun _ => none) := by
    have := Heap.Ns.new h₃ (.type "dict")
    rw [hC] at this
    exact hH4 ▸ this.keeps (pushCells_keeps _ _)
  have nold : ∀ a, h₂.get? a = none → s₁.heap.get? a = none := fun a ha => by
    cases e : s₁.heap.get? a with
    | none => rfl
    | some o => rw [hk₂ _ _ e] at ha; cases ha
  have nD1 := nold D nD2
  have nC2 : h₂.get? (D + 1) = none := by
    cases e : h₂.get? (D + 1) with
    | none => rfl
    | some o => rw [hk₃ _ _ e] at nC3; cases nC3
  have nC1 := nold _ nC2
  have hDI : D ≠ I := by rintro rfl; obtain ⟨o, e⟩ := hI2; rw [nD2] at e; cases e
  have hCI : D + 1 ≠ I := by rintro rfl; obtain ⟨o, e⟩ := hI2; rw [nC2] at e; cases e
  have hDC : D ≠ D + 1 := Nat.ne_of_lt (Nat.lt_succ_self D)
  have gn : ∀ a, s₁.heap.get? a = none → g₁ a = none := fun a ha => by
    cases e : g₁ a with
    | none => rfl
    | some o => rw [I₁.le _ _ e] at ha; cases ha
  have nI1 := W.new
  have hfpD : ∀ c ∈ fp, c ≠ D ∧ c ≠ D + 1 := fun c hc => by
    by_cases e : c = I
    · subst e; exact ⟨Ne.symm hDI, Ne.symm hCI⟩
    · obtain ⟨o, ho⟩ := W.fp c hc e
      constructor
      · rintro rfl; rw [nD1] at ho; cases ho
      · rintro rfl; rw [nC1] at ho; cases ho
  have slt : ∀ (h : Heap) z, scope.names.lookup z = some .local → (∃ m, h.Ns (D + 1) m) → Slt h (cEnv scope env (D + 1)) z (D + 1) := fun h z hz ⟨m, a⟩ => .inl ⟨relabel_other (by decide) hz, rfl, m, a⟩
  have sltNs : ∀ (h : Heap) z, scope.names.lookup z = some .local → Slt h (cEnv scope env (D + 1)) z (D + 1) → ∃ m, h.Ns (D + 1) m := fun h z hz sl => by
    rcases sl with ⟨_, _, m, d⟩ | ⟨kc, _⟩
    · exact ⟨m, d⟩
    · have : (cEnv scope env (D + 1)).kindOf z = some .local := relabel_other (by decide) hz
      rw [this] at kc; cases kc
  have invOf : ∀ (s' : Shared) (g' : Gm) z v pv, Grow s₁ g₁ s' g' → Sees s'.heap (cEnv scope env (D + 1)) z v → Rep g' v pv → Inv w s' g' (cEnv scope env (D + 1)) ((z, pv) :: capV scope.names env V) := fun s' g' z v pv G se r => by
    have In := I₁.grow G
    refine ⟨In.le, In.base, hkind, I₁.globals, I₁.builtins, fun y hy => ?_⟩
    cases hy with
    | head => exact ⟨v, se, r.T⟩
    | tail _ hy =>
      obtain ⟨hy1, hy2⟩ := List.mem_filter.mp hy
      obtain ⟨u, su, ru⟩ := In.vars y hy1
      exact ⟨u, su.cap hy2, ru⟩
  have nsKeep : ∀ (hh hh' : Heap), (∃ m, hh.Ns (D + 1) m) → (∀ o, hh.get? (D + 1) = some o → hh'.get? (D + 1) = some o) → ∃ m, hh'.Ns (D + 1) m := fun _ _ ⟨m, a⟩ k => ⟨m, a.at' k⟩
  have nsSome : ∀ (h : Heap), (∃ m, h.Ns (D + 1) m) → ∃ o, h.get? (D + 1) = some o := fun h ⟨m, a⟩ => Ns.some a
  have loop : ∀ s₄ : Shared, s₄ = { s₁ with heap := h₄ } → codeAny (MM w) A (.compLoop (.ListComp elt [⟨.Name y py, i1, [], 0⟩, ⟨.Name x px, i2, ifs2, 0⟩] scope pos) 0 (.ref I) (.ref D) (cEnv scope env (D + 1)))
      (compPost (MM w) A E use Q (.ref D) (D + 1)) s₄ := by
    rintro s₄ rfl
    refine codeAny_two0 (fun m s' => ∃ i g' c, m = n + 1 - i ∧ i ≤ n ∧ Grow s₁ g₁ s' g' ∧ St i s'.heap ∧ s'.heap.get? D = some { cls := .type "list", data := .seq #[] c } ∧
      (∃ m, s'.heap.Ns (D + 1) m) ∧ g' I = none ∧ g' D = none ∧ g' (D + 1) = none) ?_ (n + 1)
      ⟨0, g₁, 0, rfl, Nat.zero_le _, Grow.keep (tk := s₁.toks) I₁.le hk, W.walks.frame _ _ _ W.start (fun c _ o e => hk₄ c o (hk₃ c o e)), oD, ⟨_, nsC⟩, gn _ nI1, gn _ nD1, gn _ nC1⟩ (by intro _; rfl) (hs2 _)
    rintro m s' ⟨i, g', c, rfl, hin, G', st, oD', hns, gI, gD, gC⟩
    by_cases hlt : i < n
    · refine W.walks.item i s' _ _ hlt st fun v h₅ tk₅ hP st₅ hk₅ => ?_
      obtain ⟨q', hq', rq⟩ := W.item i v hlt hP
      rw [List.getElem?_map] at hq'
      obtain ⟨q, hq, rfl⟩ := Option.map_eq_some_iff.mp hq'
      have hqm : q ∈ xs := List.mem_of_getElem? hq
      have kI : ∀ a o, a ≠ I → s'.heap.get? a = some o → h₅.get? a = some o := fun a o ha e => hk₅ a o (by simpa using ha) e
      have G₅ : Grow s₁ g₁ { s' with heap := h₅, toks := tk₅ } g' := G'.but nI1 gI kI
      refine wpAny_assign_Name ((slt h₅ y hy (nsKeep _ _ hns fun o e => kI _ o hCI e)).store (show (cEnv scope env (D + 1)).scope.kind = .function from hkind) fun h₆ tk₆ sb₆ sl₆ see₆ => ?_)
      have k₆ : ∀ a o, a ≠ D + 1 → h₅.get? a = some o → h₆.get? a = some o := fun a o ha e => sb₆.extBut a o ha e
      have G₆ : Grow s₁ g₁ { s' with heap := h₆, toks := tk₆ } g' := G₅.but nC1 gC k₆
      have st₆ : St (i + 1) h₆ := W.walks.frame _ _ _ st₅ fun c hc o e => k₆ c o (hfpD c hc).2 e
      have oD₆ : h₆.get? D = some { cls := .type "list", data := .seq #[] c } := k₆ _ _ hDC (kI _ _ hDI oD')
      have ns₆ := sltNs _ _ hy sl₆
      have I₆ := invOf { s' with heap := h₆, toks := tk₆ } g' y v (cc q) G₆ see₆ (rq.mono G'.sub)
      obtain ⟨oI, eI⟩ := W.live _ _ st₆
      obtain ⟨oC, eC⟩ := nsSome _ ns₆
      refine (hi2 (D + 1) q hqm).run I₆ fun xv2 s₇ g₇ G₇ R₇ I₇ => ?_
      have gI₇ := G₇.stays eI gI
      have gD₇ := G₇.stays oD₆ gD
      have gC₇ := G₇.stays eC gC
      refine hit2 q hqm s₇ g₇ xv2 _ _ I₇.le R₇ fun J h₈ fp2 n2 P2 St2 hk₈ W2 => ?_
      have st₈ : St (i + 1) h₈ := W.walks.frame _ _ _ st₆ fun c _ o e => hk₈ c o (G₇.get c o e)
      have oD₈ := hk₈ _ _ (G₇.get _ _ oD₆)
      have ns₈ := nsKeep _ h₈ ns₆ fun o e => hk₈ _ _ (G₇.get _ _ e)
      have hJI : J ≠ I := by rintro rfl; have := G₇.get _ _ eI; rw [W2.new] at this; cases this
      have hJD : J ≠ D := by rintro rfl; have := G₇.get _ _ oD₆; rw [W2.new] at this; cases this
      have hJC : J ≠ D + 1 := by rintro rfl; have := G₇.get _ _ eC; rw [W2.new] at this; cases this
      have GG := G₆.trans G₇
      have nJ1 : s₁.heap.get? J = none := get_back GG W2.new
      have gJ₇ : g₇ J = none := by
        cases e : g₇ J with
        | none => rfl
        | some o => have := I₇.le _ _ e; rw [W2.new] at this; cases this
      have hfpJ : ∀ c ∈ fp, c ≠ J := fun c hc => by
        rintro rfl
        by_cases e : c = I
        · exact hJI e
        · obtain ⟨o, ho⟩ := W.fp c hc e
          rw [nJ1] at ho; cases ho
      have hfp2 : ∀ c ∈ fp2, c ≠ D + 1 := fun c hc => by
        by_cases e : c = J
        · rw [e]; exact hJC
        · obtain ⟨o, ho⟩ := W2.fp c hc e
          rintro rfl; rw [gC₇] at ho; cases ho
      have inner : ∀ s₈ : Shared, s₈ = { s₇ with heap := h₈ } → codeAny (MM w) A (.compLoop (.ListComp elt [⟨.Name y py, i1, [], 0⟩, ⟨.Name x px, i2, ifs2, 0⟩] scope pos) 1 (.ref J) (.ref D) (cEnv scope env (D + 1)))
          (fun r s' => match r with
            | .ok _ => ∃ m, m < n + 1 - i ∧ ∃ i g' c, m = n + 1 - i ∧ i ≤ n ∧ Grow s₁ g₁ s' g' ∧ St i s'.heap ∧ s'.heap.get? D = some { cls := .type "list", data := .seq #[] c } ∧ (∃ m, s'.heap.Ns (D + 1) m) ∧ g' I = none ∧ g' D = none ∧ g' (D + 1) = none
            | .error e => cameBackBy (MM w) A (cEnv scope env (D + 1)) (notedBy (MM w) A (cEnv scope env (D + 1)) fun e s' => compPost (MM w) A E use Q (.ref D) (D + 1) (.error e) s') e s') s₈ := by
        rintro s₈ rfl
        refine codeAny_two1 (fun m s'' => ∃ j g'', m = n2 + 1 - j ∧ j ≤ n2 ∧ Grow s₁ g₁ s'' g'' ∧ (∀ a o, g₇ a = some o → g'' a = some o) ∧ St (i + 1) s''.heap ∧ St2 j s''.heap ∧ s''.heap.get? D = some { cls := .type "list", data := .seq #[] c } ∧
          (∃ m, s''.heap.Ns (D + 1) m) ∧ g'' I = none ∧ g'' D = none ∧ g'' (D + 1) = none ∧ g'' J = none) ?_ (n2 + 1)
          ⟨0, g₇, rfl, Nat.zero_le _, GG.trans (Grow.keep (tk := s₇.toks) I₇.le hk₈), fun _ _ e => e, st₈, W2.start, oD₈, ns₈, gI₇, gD₇, gC₇, gJ₇⟩
        rintro m' s'' ⟨j, g'', rfl, hjn, G'', sub'', st'', st2, oD'', ns'', gI'', gD'', gC'', gJ''⟩
        by_cases hjt : j < n2
        · refine W2.walks.item j s'' _ _ hjt st2 fun u h₉ tk₉ hP2 st₉ hk₉ => ?_
          obtain ⟨r', hr', rr⟩ := W2.item j u hjt hP2
          rw [List.getElem?_map] at hr'
          obtain ⟨r, hr, rfl⟩ := Option.map_eq_some_iff.mp hr'
          have hrm : r ∈ ys q := List.mem_of_getElem? hr
          have kJ : ∀ a o, a ≠ J → s''.heap.get? a = some o → h₉.get? a = some o := fun a o ha e => hk₉ a o (by simpa using ha) e
          have G₉ : Grow s₁ g₁ { s'' with heap := h₉, toks := tk₉ } g'' := G''.but nJ1 gJ'' kJ
          refine wpAny_assign_Name ((slt h₉ x hx (nsKeep _ _ ns'' fun o e => kJ _ o (Ne.symm hJC) e)).store (show (cEnv scope env (D + 1)).scope.kind = .function from hkind) fun ha tka sba sla seea => ?_)
          have ka : ∀ a o, a ≠ D + 1 → h₉.get? a = some o → ha.get? a = some o := fun a o hne e => sba.extBut a o hne e
          have Ga : Grow s₁ g₁ { s'' with heap := ha, toks := tka } g'' := G₉.but nC1 gC'' ka
          have sta : St (i + 1) ha := W.walks.frame _ _ _ st'' fun c hc o e => ka c o (hfpD c hc).2 (kJ c o (hfpJ c hc) e)
          have st2a : St2 (j + 1) ha := W2.walks.frame _ _ _ st₉ fun c hc o e => ka c o (hfp2 c hc) e
          have oDa := ka _ _ hDC (kJ _ _ (Ne.symm hJD) oD'')
          have nsa := sltNs _ _ hx sla
          have Ia := invOf { s'' with heap := ha, toks := tka } g'' x u (cc2 r) Ga seea (rr.mono sub'')
          obtain ⟨oIa, eIa⟩ := W.live _ _ sta
          obtain ⟨oJa, eJa⟩ := W2.live _ _ st2a
          obtain ⟨oCa, eCa⟩ := nsSome _ nsa
          refine wpAny_mono (ht (D + 1) q r hqm hrm _ g'' _ Ia) (fun ok sb hb => ?_) fun _ _ e => e
          obtain ⟨rfl, gb, Gb⟩ := hb
          exact ⟨rfl, n2 + 1 - (j + 1), by omega, j + 1, gb, rfl, hjt, Ga.trans Gb, fun a o e => Gb.sub _ _ (sub'' a o e), W.walks.frame _ _ _ sta (fun c _ o e => Gb.get c o e), W2.walks.frame _ _ _ st2a (fun c _ o e => Gb.get c o e), Gb.get _ _ oDa, nsKeep _ _ nsa (fun o e => Gb.get _ _ e), Gb.stays eIa gI'', Gb.stays oDa gD'', Gb.stays eCa gC'', Gb.stays eJa gJ''⟩
        · have hj : j = n2 := by omega
          subst hj
          refine W2.walks.done _ _ _ st2 fun h₉ tk₉ hk₉ => ?_
          have kJ : ∀ a o, a ≠ J → s''.heap.get? a = some o → h₉.get? a = some o := fun a o ha e => hk₉ a o (by simpa using ha) e
          exact ⟨n + 1 - (i + 1), by omega, i + 1, g'', c, rfl, hlt, G''.but nJ1 gJ'' kJ, W.walks.frame _ _ _ st'' (fun c hc o e => kJ c o (hfpJ c hc) e), kJ _ _ (Ne.symm hJD) oD'', nsKeep _ _ ns'' (fun o e => kJ _ _ (Ne.symm hJC) e), gI'', gD'', gC''⟩
      exact codeAny_start1 (inner _ rfl) (W2.walks.self 0 _ _ _ W2.start (inner _ rfl))
    · have hin' : i = n := by omega
      subst hin'
      refine W.walks.done _ _ _ st fun h₅ tk₅ hk₅ => ?_
      have kI : ∀ a o, a ≠ I → s'.heap.get? a = some o → h₅.get? a = some o := fun a o ha e => hk₅ a o (by simpa using ha) e
      have G₅ : Grow s₁ g₁ { s' with heap := h₅, toks := tk₅ } g' := G'.but nI1 gI kI
      have oD₅ := kI _ _ hDI oD'
      have Gf : Grow s₁ g₁ { s' with heap := h₅, toks := tk₅ } (gadd g' D { cls := .type "list", data := .seq #[] c }) := by
        refine ⟨G₅.keeps, fun a o e => ?_, fun a o e => ?_, fun a o e1 e2 => ?_⟩
        · rw [gadd_ne]; exact G₅.sub a o e
          rintro rfl; rw [I₁.le _ _ e] at nD1; cases nD1
        · by_cases q : a = D
          · subst q; rw [gadd_self] at e; cases e; exact oD₅
          · rw [gadd_ne q] at e; exact G₅.le a o e
        · by_cases q : a = D
          · subst q; exact nD1
          · rw [gadd_ne q] at e1; exact G₅.fresh a o e1 e2
      exact k D (D + 1) _ _ (G₁.trans Gf) (Rep.list gadd_self rfl rfl .nil) (get_back G₁ nC1) (by rw [gadd_ne (Ne.symm hDC)]; exact gC) (nsKeep _ h₅ hns fun o e => kI _ _ hCI e) (get_back G₁ nD1)
  have st₄ : St 0 h₄ := W.walks.frame _ _ _ W.start fun c _ o e => hk₄ c o (hk₃ c o e)
  exact codeAny_compStart_list (loop _ rfl) (W.walks.self 0 _ _ _ st₄ (loop _ rfl))

theorem ex_compTwo {elt i1 i2 : Expr} {x y : Str} {px py : Pos} {ifs2 : List Expr} {scope : Scope} {pos : Pos} {pi : PV} {α β : Type} {xs : List α} (cc : α → PV) (cc2 : β → PV) (ys : α → List β) (p2 : α → PV)
    (hi : Ex w A env V i1 pi) (hit : Itr w A pi (xs.map cc))
    (hi2 : ∀ C q, q ∈ xs → Ex w A (cEnv scope env C) ((y, cc q) :: capV scope.names env V) i2 (p2 q)) (hit2 : ∀ q, q ∈ xs → ItrF w A (p2 q) ((ys q).map cc2))
    (ht : ∀ C q r, q ∈ xs → r ∈ ys q → Tf w A (cEnv scope env C) ((x, cc2 r) :: capV scope.names env V) ifs2 false)
    (hx : scope.names.lookup x = some .local) (hy : scope.names.lookup y = some .local)
    (hfree : freeOk scope.names env = true := by rfl) (hkind : scope.kind = .function := by rfl) (hnames : ∀ y ∈ scope.names, y.2 = .local → scope.names.lookup y.1 = some .local := by decide)
    (hs : ∀ x, foldedSetIterable i1 env x = pure x := by intro _; rfl) (hs2 : ∀ e x, foldedSetIterable i2 e x = pure x := by intro _ _; rfl) :
    Ex w A env V (.ListComp elt [⟨.Name y py, i1, [], 0⟩, ⟨.Name x px, i2, ifs2, 0⟩] scope pos) (.list []) := by
  intro s g E I
  have ev : eval (.ListComp elt [⟨.Name y py, i1, [], 0⟩, ⟨.Name x px, i2, ifs2, 0⟩] scope pos) env = comprehension (.ListComp elt [⟨.Name y py, i1, [], 0⟩, ⟨.Name x px, i2, ifs2, 0⟩] scope pos) scope env i1.pos (newList []) false (eval i1 env) none := by rfl
  rw [ev]
  refine comp_two (use := none) cc cc2 ys p2 hi hit I hs hs2 hfree hkind hnames hx hy hi2 hit2 ht ?_
  intro D C s' g' G R nC gC hns nD
  obtain ⟨m, hm⟩ := hns
  refine ⟨m, hm, fun h' sb => ⟨g', G.but (tk := s'.toks) nC gC fun b o hb e => sb.extBut b o hb e, R.T⟩⟩
end
end Mine
end
noncomputable section
open PySem PySem.W PySem.Calls PyProof.Rows
namespace Mine
def enumF (f : Nat → Int → Int) (l : List Int) : List Int := (List.range l.length).map fun i => f i (l.getD i 0)
def enumUp (f : Nat → Int → Int) (l : List Int) (i : Nat) : List Int := (List.range i).map fun i => f i (l.getD i 0)
theorem enumUp_succ (f : Nat → Int → Int) (l : List Int) (i : Nat) : enumUp f l (i + 1) = enumUp f l i ++ [f i (l.getD i 0)] := by
  unfold enumUp; rw [List.range_succ, List.map_append]; rfl
section
variable {w : World} {A : Around} {env : Env} {V : Vars} {s : Shared} {g : Gm} {E : Value → Shared → Prop}

set_option maxHeartbeats 4000000 in
theorem ex_enum {elt : Expr} {x y z en : Str} {px py np nz cpos tp : Pos} {tk0 : Nat} {scope : Scope} {pos : Pos} {l : List Int} (f : Nat → Int → Int) (hh : A.handled = none)
    (hz : Ex w A env V (.Name z nz) (.list (PI l))) (hen : Ex w A env V (.Name en np) (.val (.type "enumerate"))) (hl : l.length ≤ 1000)
    (he : ∀ C i, i < l.length → Ex w A (cEnv scope env C) ((x, .int (i : Int)) :: (y, .int (l.getD i 0)) :: capV scope.names env V) elt (.int (f i (l.getD i 0))))
    (hx : scope.names.lookup x = some .local) (hy : scope.names.lookup y = some .local) (hxy : x ≠ y)
    (hfree : freeOk scope.names env = true := by rfl) (hkind : scope.kind = .function := by rfl) (hnames : ∀ y ∈ scope.names, y.2 = .local → scope.names.lookup y.1 = some .local := by decide)
    (hs : ∀ v, foldedSetIterable (.Call (.Name en np) [.Name z nz] [] cpos) env v = pure v := by intro _; rfl)
    (hb : backTo cpos (starEach [.Name z nz] env) = [(false, eval (.Name z nz) env)] := by rfl) :
    Ex w A env V (.ListComp elt [⟨.Tuple [.Name x px, .Name y py] tk0 tp, .Call (.Name en np) [.Name z nz] [] cpos, [], 0⟩] scope pos) (.list (PI (enumF f l))) := by
  intro s g E I₀
  rw [eval_ListComp]
  refine wpAny_comprehension_free rfl hs (closure_eq hfree) hkind hnames ?_
  refine wpAny_Call_NameR (hen.run I₀ fun ev s₀ g₀ G₀ R₀ J₀ => ?_)
  cases (show Rep g₀ ev (.val _) from R₀)
  refine PySem.callWith_type (by rw [hb]; rfl) ?_
  rw [hb]
  refine evalArgs_plain (spliced_cons (hz.run J₀ fun u s₁ g₁ G₁ R₁ I₁ => spliced_nil ?_))
  cases (show Rep g₁ u (.list (PI l)) from R₁) with
  | list hg hc hd rs =>
    rename_i a ol vs nl
    have hL : ∀ h : Heap, h.get? a = some ol → h.IsList a vs := fun h e => ⟨ol, e, hc, nl, hd⟩
    have hol := I₁.le _ _ hg
    have hlen : vs.size = l.length := by have := rs.length; simpa [PI] using this
    refine call_enumerate_list (hL _ hol) fun h₂ hE hI hz2 hk₂ => ?_
    refine wpAny_pyIter_enum hE ?_
    refine wpAny_newObj_type (nfe_comp ?_)
    dsimp only
    have eE : h₂.get? (s₁.heap.objs.size + 1) ≠ none := by rw [hE]; exact fun e => by cases e
    obtain ⟨oI, eI, hI'⟩ := id hI
    generalize hN : s₁.heap.objs.size = T at *
    generalize hD : h₂.objs.size = D
    generalize hH3 : h₂.push { cls := .type "list", dict := none, data := .seq ([] : List Value).toArray } = h₃
    have hC : h₃.objs.size = D + 1 := by rw [← hH3, Heap.size_push, hD]
    rw [hC]
    generalize hH4 : pushCells (h₃.push { cls := .type "dict", data := .dict #[] }) scope.names = h₄
    have hk₃ : ∀ b o, h₂.get? b = some o → h₃.get? b = some o := fun b o e => hH3 ▸ Heap.get?_push_of_some _ e
    have hk₄ : ∀ b o, h₃.get? b = some o → h₄.get? b = some o := fun b o e => hH4 ▸ pushCells_keeps _ _ b o (Heap.get?_push_of_some _ e)
    have hk24 : ∀ b o, h₂.get? b = some o → h₄.get? b = some o := fun b o e => hk₄ b o (hk₃ b o e)
    have hk : ∀ b o, s₁.heap.get? b = some o → h₄.get? b = some o := fun b o e => hk24 b o (hk₂ b o e)
    have nD2 : h₂.get? D = none := hD ▸ get_size_none _
    have oD : h₄.get? D = some { cls := .type "list", dict := none, data := .seq #[] } := hk₄ _ _ (by rw [← hH3, ← hD]; exact Heap.get?_push_size _ rfl)
    have nC3 : h₃.get? (D + 1) = none := hC ▸ get_size_none _
    have nsC : h₄.Ns (D + 1) (fun _ => none) := by
      have := Heap.Ns.new h₃ (.type "dict")
      rw [hC] at this
      exact hH4 ▸ this.keeps (pushCells_keeps _ _)
    have nold : ∀ b, h₂.get? b = none → s₁.heap.get? b = none := fun b hb => by
      cases e : s₁.heap.get? b with
      | none => rfl
      | some o => rw [hk₂ _ _ e] at hb; cases hb
    have nD1 := nold D nD2
    have nC2 : h₂.get? (D + 1) = none := by
      cases e : h₂.get? (D + 1) with
      | none => rfl
      | some o => rw [hk₃ _ _ e] at nC3; cases nC3
    have nC1 := nold _ nC2
    have nT1 : s₁.heap.get? T = none := hN ▸ get_size_none _
    have nE1 : s₁.heap.get? (T + 1) = none := by
      cases e : s₁.heap.get? (T + 1) with
      | none => rfl
      | some o => exact absurd (hN ▸ Heap.lt_size e) (Nat.not_lt.mpr (Nat.le_succ _))
    have hTE : T + 1 ≠ T := Nat.succ_ne_self T
    have hDC : D ≠ D + 1 := Nat.ne_of_lt (Nat.lt_succ_self D)
    have hDT : D ≠ T := by rintro rfl; rw [nD2] at eI; cases eI
    have hDE : D ≠ T + 1 := by rintro rfl; rw [nD2] at eE; exact eE rfl
    have hCT : D + 1 ≠ T := by rintro e; rw [e] at nC2; rw [nC2] at eI; cases eI
    have hCE : D + 1 ≠ T + 1 := by rintro e; rw [e] at nC2; exact eE nC2
    have haT : a ≠ T := by rintro rfl; rw [nT1] at hol; cases hol
    have haE : a ≠ T + 1 := by rintro rfl; rw [nE1] at hol; cases hol
    have haD : a ≠ D := by rintro rfl; rw [nD1] at hol; cases hol
    have haC : a ≠ D + 1 := by rintro rfl; rw [nC1] at hol; cases hol
    have gn : ∀ b, s₁.heap.get? b = none → g₁ b = none := fun b hb => by
      cases e : g₁ b with
      | none => rfl
      | some o => rw [I₁.le _ _ e] at hb; cases hb
    have hkx : (cEnv scope env (D + 1)).kindOf x = some .local := relabel_other (by decide) hx
    have hky : (cEnv scope env (D + 1)).kindOf y = some .local := relabel_other (by decide) hy
    have hp : ((cEnv scope env (D + 1)).scope.kind == .class || ((cEnv scope env (D + 1)).scope.kind == .module && (cEnv scope env (D + 1)).locals != (cEnv scope env (D + 1)).globals)) = false := by
      have : (cEnv scope env (D + 1)).scope.kind = .function := hkind
      rw [this]; rfl
    have loop : ∀ s₄ : Shared, s₄ = { s₁ with heap := h₄ } → codeAny (MM w) A (.compLoop (.ListComp elt [⟨.Tuple [.Name x px, .Name y py] tk0 tp, .Call (.Name en np) [.Name z nz] [] cpos, [], 0⟩] scope pos) 0 (.ref (T + 1)) (.ref D) (cEnv scope env (D + 1)))
        (compPost (MM w) A E none (fun v s' => ∃ g', Grow s g s' g' ∧ RepT s'.heap g' v (.list (PI (enumF f l)))) (.ref D) (D + 1)) s₄ := by
      rintro s₄ rfl
      refine LCp.codeAny_compLoop_pair (fun m s' => ∃ i g' ys c old, m = l.length + 1 - i ∧ i ≤ l.length ∧ Grow s₁ g₁ s' g' ∧ IsEnum s'.heap (T + 1) T ((i : Nat) : Int) old ∧ s'.heap.IsListIter T a i ∧ s'.heap.get? D = some { cls := .type "list", data := .seq ys c } ∧
        Reps g' ys.toList (PI (enumUp f l i)) ∧ (∃ m, s'.heap.Ns (D + 1) m) ∧ g' T = none ∧ g' (T + 1) = none ∧ g' D = none ∧ g' (D + 1) = none) ?_ (l.length + 1)
        ⟨0, g₁, #[], 0, .none, rfl, Nat.zero_le _, Grow.keep (tk := s₁.toks) I₁.le hk, hk24 _ _ hE, (by obtain ⟨o, e, r⟩ := hI; exact ⟨o, hk24 _ _ e, r⟩), oD, by simpa [enumUp, PI] using Reps.nil, ⟨_, nsC⟩, gn _ nT1, gn _ nE1, gn _ nD1, gn _ nC1⟩
      rintro m s' ⟨i, g', ys, c, old, rfl, hin, G', hE', hI', oD', rs', ⟨mC, hns⟩, gT, gE, gD, gC⟩
      have ha' := hL _ (G'.get _ _ hol)
      by_cases hlt : i < l.length
      · obtain ⟨v, hv, rv⟩ := rs.get (i := i) (pi_get hlt)
        have hv' : vs[i]? = some v := by simpa using hv
        cases rv
        rename_i tv
        generalize hq : l.getD i 0 = q at *
        refine wpAny_pyNext_enum_item hE' hI' ha' hv' hTE fun h₅ heo hI₅ hT₅ hz₅ hk₅ => ?_
        generalize hN' : s'.heap.objs.size = U at *
        have hU : ∀ b o, s'.heap.get? b = some o → b < U := fun b o e => hN' ▸ Heap.lt_size e
        refine wpAny_letOwnedTupleGo_enum heo fun h₆ hE₆ hs₆ => ?_
        replace hs₆ : Heap.SameBut (T + 1) h₅ h₆ := hs₆
        have lE : T + 1 < U := hU _ _ hE'
        have lT : T < U := by obtain ⟨o, e, _⟩ := hI'; exact hU _ _ e
        have lD : D < U := hU _ _ oD'
        have lC : D + 1 < U := by obtain ⟨o, e⟩ := Ns.some hns; exact hU _ _ e
        have hT₆ : h₆.IsTuple U #[.int i s'.toks, .int q tv] := ⟨_, (hs₆.2 _ (Nat.ne_of_gt lE)).trans hT₅, rfl, _, rfl⟩
        have hz₆ : h₆.objs.size = U + 1 := hs₆.1.trans hz₅
        refine wpAny_assign_Tuple hh hT₆ rfl rfl fun h₇ hx₇ => ?_
        replace hx₇ : Heap.ExtBut h₆.objs.size h₆ h₇ := hx₇
        have k₇ : ∀ b o, b < U → h₆.get? b = some o → h₇.get? b = some o := fun b o hb e => hx₇ b o (by rw [hz₆]; exact Nat.ne_of_lt (Nat.lt_succ_of_lt hb)) e
        have k₆ : ∀ b o, b ≠ T + 1 → h₅.get? b = some o → h₆.get? b = some o := fun b o hb e => hs₆.extBut b o hb e
        have hn₇ : h₇.Ns (D + 1) mC := hns.at' fun o e => k₇ _ _ lC (k₆ _ _ hCE (hk₅ _ _ hCE hCT e))
        show wpAny _ A (do holding [.int q tv] (assign (.Name x px) (cEnv scope env (D + 1)) (.int i s'.toks)); do holding [] (assign (.Name y py) (cEnv scope env (D + 1)) (.int q tv)); pure ()) _ _ _
        refine wpAny_bind (wpAny_holding (wpAny_assign_Name (wpAny_storeName_local hkx hn₇ (fun h₈ hn₈ hs₈ => ?_) hp)))
        replace hs₈ : Heap.SameBut (D + 1) h₇ h₈ := hs₈
        refine wpAny_bind (wpAny_holding (wpAny_assign_Name (wpAny_storeName_local hky hn₈ (fun h₉ hn₉ hs₉ => wpAny_pure ?_) hp)))
        replace hs₉ : Heap.SameBut (D + 1) h₈ h₉ := hs₉
        have k₉ : ∀ b o, b ≠ D + 1 → b < U → h₆.get? b = some o → h₉.get? b = some o := fun b o hb hl e => hs₉.extBut b o hb (hs₈.extBut b o hb (k₇ b o hl e))
        have kall : ∀ b o, b ≠ T + 1 → b ≠ T → b ≠ D + 1 → s'.heap.get? b = some o → h₉.get? b = some o := fun b o h1 h2 h3 e => k₉ b o h3 (hU b o e) (k₆ b o h1 (hk₅ b o h1 h2 e))
        have oE₉ : IsEnum h₉ (T + 1) T ((i : Int) + 1) (.int q tv) := k₉ _ _ (Ne.symm hCE) lE hE₆
        have oI₉ : h₉.IsListIter T a (i + 1) := by obtain ⟨o, e, r⟩ := hI₅; exact ⟨o, k₉ _ _ (Ne.symm hCT) lT (k₆ _ _ (Ne.symm hTE) e), r⟩
        have oD₉ := kall _ _ hDE hDT hDC oD'
        have G₉ : ∀ tk, Grow s₁ g₁ { s' with heap := h₉, toks := tk } g' := fun tk => by
          obtain ⟨⟨h, t, e0, kp⟩, sub, le, fr⟩ := G'
          subst e0
          refine ⟨⟨h₉, tk, rfl, fun b o e => kall b o ?_ ?_ ?_ (kp b o e)⟩, sub, fun b o e => kall b o ?_ ?_ ?_ (le b o e), fr⟩
          · rintro rfl; rw [nE1] at e; cases e
          · rintro rfl; rw [nT1] at e; cases e
          · rintro rfl; rw [nC1] at e; cases e
          · rintro rfl; rw [gE] at e; cases e
          · rintro rfl; rw [gT] at e; cases e
          · rintro rfl; rw [gC] at e; cases e
        have I₉ : ∀ tk, Inv w { s' with heap := h₉, toks := tk } g' (cEnv scope env (D + 1)) ((x, .int (i : Int)) :: (y, .int q) :: capV scope.names env V) := fun tk => by
          have In := I₁.grow (G₉ tk)
          refine ⟨In.le, In.base, hkind, I₁.globals, I₁.builtins, fun e he => ?_⟩
          cases he with
          | head => exact ⟨_, .inl ⟨hkx, _, hn₉, by simp [hxy]⟩, (Rep.int (i : Int) s'.toks)⟩
          | tail _ he =>
            cases he with
            | head => exact ⟨_, .inl ⟨hky, _, hn₉, by simp⟩, (Rep.int q tv)⟩
            | tail _ he =>
              obtain ⟨hy1, hy2⟩ := List.mem_filter.mp he
              obtain ⟨u, su, ru⟩ := In.vars e hy1
              exact ⟨u, su.cap hy2, ru⟩
        have hel := he (D + 1) i hlt
        rw [hq] at hel
        refine wpAny_mono (hel _ g' _ (I₉ _)) (fun yv sa ha => ?_) fun _ _ e => e
        obtain ⟨ga, Ga, ra⟩ := ha
        have oDa := Ga.get _ _ oD₉
        have hys : ys.size ≤ sizeLine := by
          have e1 := rs'.length
          rw [Array.length_toList] at e1
          rw [sizeLine_eq]
          simp [PI, enumUp] at e1
          omega
        refine wpAny_list_append_plain (items := ys) (hsz := hys) ⟨c, oDa⟩ fun hb pl sb => ?_
        obtain ⟨c', oDb⟩ := pl
        have kb : ∀ b o, b ≠ D → sa.heap.get? b = some o → hb.get? b = some o := fun b o hb' e => sb.extBut b o hb' e
        have gDa := Ga.stays oD₉ gD
        have Gb : Grow s₁ g₁ { sa with heap := hb } ga := ((G₉ _).trans Ga).but (tk := sa.toks) nD1 gDa kb
        obtain ⟨oC, eC⟩ := Ns.some hn₉
        refine ⟨l.length + 1 - (i + 1), by omega, i + 1, ga, ys.push yv, c', .int q tv, rfl, hlt, Gb, ?_, ?_, oDb, ?_, ⟨_, hn₉.at' fun o e => kb _ _ (Ne.symm hDC) (Ga.get _ _ e)⟩, ?_, ?_, gDa, Ga.stays eC gC⟩
        · have : ((i + 1 : Nat) : Int) = (i : Int) + 1 := by push_cast; rfl
          rw [this]; exact kb _ _ (Ne.symm hDE) (Ga.get _ _ oE₉)
        · obtain ⟨o, e, r⟩ := oI₉; exact ⟨o, kb _ _ (Ne.symm hDT) (Ga.get _ _ e), r⟩
        · rw [enumUp_succ, hq]
          have := (rs'.mono Ga.sub).snoc (show Rep ga yv (.int _) from ra)
          simpa [PI] using this
        · obtain ⟨o, e, r⟩ := oI₉; exact Ga.stays e gT
        · exact Ga.stays oE₉ gE
      · have hi' : i = l.length := by omega
        subst hi'
        refine wpAny_pyNext_enum_end hh hE' hI' ha' (by rw [Array.getElem?_eq_none]; omega) fun h₅ eb => ?_
        have kT : ∀ b o, b ≠ T → s'.heap.get? b = some o → h₅.get? b = some o := fun b o hb e => eb b o hb e
        have G₅ : Grow s₁ g₁ { s' with heap := h₅ } g' := G'.but (tk := s'.toks) nT1 gT kT
        have oD₅ := kT _ _ hDT oD'
        have Gf : Grow s₁ g₁ { s' with heap := h₅ } (gadd g' D { cls := .type "list", data := .seq ys c }) := by
          refine ⟨G₅.keeps, fun b o e => ?_, fun b o e => ?_, fun b o e1 e2 => ?_⟩
          · rw [gadd_ne]; exact G₅.sub b o e
            rintro rfl; rw [I₁.le _ _ e] at nD1; cases nD1
          · by_cases q : b = D
            · subst q; rw [gadd_self] at e; cases e; exact oD₅
            · rw [gadd_ne q] at e; exact G₅.le b o e
          · by_cases q : b = D
            · subst q; exact nD1
            · rw [gadd_ne q] at e1; exact G₅.fresh b o e1 e2
        refine ⟨mC, hns.at' fun o e => kT _ _ hCT e, fun h' sb => ⟨gadd g' D { cls := .type "list", data := .seq ys c }, (G₀.trans (G₁.trans Gf)).but (tk := s'.toks) (get_back G₀ (get_back G₁ nC1)) (by rw [gadd_ne (Ne.symm hDC)]; exact gC) (fun b o hb e => sb.extBut b o hb e), Rep.list gadd_self rfl rfl ?_⟩⟩
        refine Reps.mono (fun b o e => ?_) rs'
        rw [gadd_ne]; exact e
        rintro rfl; rw [gD] at e; cases e
    exact codeAny_compStart_list (loop _ rfl) (wpAny_pyIter_enum (hk24 _ _ hE) (loop _ rfl))
end
end Mine
end
noncomputable section
open PySem PySem.W PySem.Calls PyProof.Rows
namespace Mine
section
variable {w : World} {A : Around} {env : Env} {V : Vars}
theorem exL_four {e f : Expr} {p pos : Pos} {i : Int} (he : Exs w A env V p [e] [.int i]) (hf : Ex w A env V f (.int 4)) : ExL w A env V (.BinOp (.List [e] p) .Mult f pos) (PI [i, i, i, i]) := by
  intro s g E I
  refine wpAny_BinOp (wpAny_List_spliced (he.run I fun vs s₁ g₁ G₁ R₁ I₁ => ⟨by rw [R₁.length, sizeLine_eq]; show 1 ≤ _; omega, ?_⟩))
  cases R₁ with
  | cons r rs =>
    cases rs; cases r
    rename_i t
    have G₂ : Grow s₁ g₁ { s₁ with heap := s₁.heap.push { cls := .type "list", data := .seq [Value.int i t].toArray } } g₁ := Grow.keep (tk := s₁.toks) I₁.le fun _ _ e => Heap.get?_push_of_some _ e
    refine hf.run (I₁.grow G₂) fun u s₃ g₃ G₃ R₃ I₃ => ?_
    cases (show Rep g₃ u (.int 4) from R₃)
    rename_i tu
    have hl : s₃.heap.get? s₁.heap.objs.size = some { cls := .type "list", dict := none, data := .seq #[.int i t] 0, slots := #[] } := G₃.get _ _ (Heap.get?_push_size _ rfl)
    refine wpAny_binaryOp_repeat_ref (T := "list") (U := "int") (by decide) ⟨_, hl, rfl⟩ (fun s' => typeIs_int s' 4 tu) noFill_list_mul PySem.F.fills_int_mul PySem.F.slot_int_rmul repeat_list PySem.F.slot_int_index.lookup
      (call_meets PySem.F.slot_int_rmul (typeIs_int s₃ 4 tu) PySem.F.entry_int_rmul (PySem.F.args_int_rmul_2 _ _) (int___rmul___int_list 4 tu _ #[.int i t] 0)
        ⟨hl, rfl, ⟨_, hl, rfl⟩, call_meets PySem.F.slot_list_mul ⟨_, hl, rfl⟩ PySem.F.entry_list_mul (PySem.F.args_list_mul_2 _ _)
          (AutoListH.list___mul___list_int_3 _ #[.int i t] 0 4 tu (by decide) (by simp) (by show ¬ Builtin.List.listTooLong (1 * 4) = true; decide)) ⟨hl, ?_⟩⟩)
    have GG : Grow s g s₃ g₃ := (G₁.trans G₂).trans G₃
    refine ⟨s₃.heap.objs.size, #[.int i t, .int i t, .int i t, .int i t], 0, rfl, keeps_trans GG.keeps ⟨_, s₃.toks, rfl, fun _ _ e => Heap.get?_push_of_some _ e⟩, ?_, Heap.get?_push_size _ rfl, fun g' => ?_⟩
    · exact get_back GG (get_size_none _)
    · exact .cons (.int _ _) (.cons (.int _ _) (.cons (.int _ _) (.cons (.int _ _) .nil)))
end
end Mine
end
noncomputable section
open PySem PySem.W PySem.Calls PyProof.Rows
namespace Mine

local macro_rules | `(tactic| walk_at "mem") => `(tactic| first
  | with_reducible exact List.mem_cons_self
  | ((with_reducible refine List.mem_cons_of_mem _ ?_); walk_at "mem")
  | ((with_reducible refine mem_cap ?hm ?hc); (case hc => rfl); (case hm => walk_at "mem"))
  | with_reducible exact mem_upd_self
  | ((with_reducible refine mem_upd ?hm ?hc); (case hc => rfl); (case hm => walk_at "mem")))
local macro_rules | `(tactic| walk_at "sub") => `(tactic| first
  | with_reducible exact sub_nil
  | ((with_reducible refine sub_cons ?hm ?hc); (case hc => walk_at "sub"); (case hm => walk_at "mem")))
local macro_rules | `(tactic| walk_at "sole") => `(tactic| first
  | with_reducible exact sole_nil
  | ((with_reducible refine sole_upd ?hm ?hp); (case hp => (first | (intro _ _ e; cases e; done) | exact fun _ _ _ => .inl rfl)); (case hm => walk_at "sole"))
  | ((with_reducible refine sole_cons ?hm ?hp); (case hp => (first | (intro _ _ e; cases e; done) | exact fun _ _ _ => .inl rfl)); (case hm => walk_at "sole")))

def onSide (kept s : Int) : Bool := Builtin.bitAnd kept s != 0
def wordsF (T : List Str) (kept : Int) : List Str := (([1, 2, 4] : List Int).filter (onSide kept)).map (tAt T)
def splitC (x : Str) : List Str := Txt.split x (Str.ofString ", ")
def wordIn (one : List Str) (x : Str) : Str := if (one.any (· == x)) = true then x else Txt.lower x
def rowF (words one : List Str) : List Str := words.map (wordIn one)
def rowsF (T : List Str) (ms : List Int) (kept : Int) : List (List Str) := ms.map fun v => rowF (wordsF T kept) (splitC (tAt T v))
def dist (mc : Int) (a b : List Str) : Int := (lev a b mc).getD 0
def farF (rows : List (List Str)) : List (List Int) := rows.map fun one => rows.map (dist 3 one)
def fAt (far : List (List Int)) (i j : Nat) : Int := (far.getD i []).getD j 0
def betw (far : List (List Int)) (n i j : Nat) : Nat := ((rInts 0 1 n).filter fun k => (fAt far i k.toNat + fAt far k.toNat j == fAt far i j)).length
def pairStep (far : List (List Int)) (n i j : Nat) (p : List Int) : List Int := if ((betw far n i j : Int) == 2 ^ (fAt far i j).toNat) = true then p.set (fAt far i j).toNat (p.getD (fAt far i j).toNat 0 + 1) else p
noncomputable def pairIn (far : List (List Int)) (n i : Nat) (p : List Int) : Nat → List Int
  | 0 => p
  | j + 1 => pairStep far n i j (pairIn far n i p j)
noncomputable def pairOut (far : List (List Int)) (n : Nat) : Nat → List Int
  | 0 => [0, 0, 0, 0]
  | i + 1 => pairIn far n i (pairOut far n i) i
def pairsF (far : List (List Int)) (n : Nat) : List Int := pairOut far n n
theorem pairStep_len (far : List (List Int)) (n i j : Nat) (p : List Int) : (pairStep far n i j p).length = p.length := by
  unfold pairStep; split <;> simp
theorem pairIn_len (far : List (List Int)) (n i : Nat) (p : List Int) : ∀ j, (pairIn far n i p j).length = p.length
  | 0 => rfl
  | j + 1 => by show (pairStep _ _ _ _ _).length = _; rw [pairStep_len, pairIn_len far n i p j]
theorem pairOut_len (far : List (List Int)) (n : Nat) : ∀ i, (pairOut far n i).length = 4
  | 0 => rfl
  | i + 1 => by show (pairIn _ _ _ _ _).length = _; rw [pairIn_len, pairOut_len far n i]

theorem far_get {rows : List (List Str)} {i : Nat} (h : i < rows.length) : ((farF rows).map fun r => PV.list (PI r))[i]? = some (.list (PI ((farF rows).getD i []))) := by
  have h' : i < (farF rows).length := by simp [farF]; exact h
  rw [List.getElem?_map, List.getElem?_eq_getElem h', List.getD_eq_getElem?_getD, List.getElem?_eq_getElem h']
  rfl
theorem far_row_len {rows : List (List Str)} {i : Nat} (h : i < rows.length) : ((farF rows).getD i []).length = rows.length := by
  have h' : i < (farF rows).length := by simp [farF]; exact h
  rw [List.getD_eq_getElem?_getD, List.getElem?_eq_getElem h']
  simp [farF]
theorem strs_get {rows : List (List Str)} {i : Nat} (h : i < rows.length) : (rows.map fun r => PV.list (PS r))[i]? = some (.list (PS (rows.getD i []))) := by
  rw [List.getElem?_map, List.getElem?_eq_getElem h, List.getD_eq_getElem?_getD, List.getElem?_eq_getElem h]
  rfl
theorem wordIn_len {one : List Str} {x : Str} (h : okText x = true) : (wordIn one x).length ≤ 1000 := by
  unfold wordIn
  split
  · exact Nat.le_trans (okText_z h) (by omega)
  · exact Nat.le_trans (okText_y h) (by omega)

section
variable {w : World} {A : Around} {env : Env} {V : Vars}
theorem ex_far {value i1 i2 : Expr} {p1 p2 : Pos} {rows : List (List Str)} {i j : Nat} (hv : Ex w A env V value (.list ((farF rows).map fun r => PV.list (PI r)))) (h1 : Ex w A env V i1 (.int (i : Int))) (h2 : Ex w A env V i2 (.int (j : Int))) (hi : i < rows.length) (hj : j < rows.length) (hn : rows.length ≤ 1000)
    (hs1 : ∀ o iv, subscripted i1 false o iv = operate [o, iv] (getItem o iv) := by intro _ _; rfl) (hs2 : ∀ o iv, subscripted i2 false o iv = operate [o, iv] (getItem o iv) := by intro _ _; rfl) :
    Ex w A env V (.Subscript (.Subscript value i1 p1) i2 p2) (.int (fAt (farF rows) i j)) :=
  ex_sub (ex_sub hv rfl h1 (by omega) (by omega) (by rw [Int.toNat_natCast]; exact far_get hi) hs1) rfl h2 (by omega) (by omega) (by rw [Int.toNat_natCast]; exact pi_get (by rw [far_row_len hi]; exact hj)) hs2

theorem fn_typeI {x : Int} : Fn w A (.type "type") [.int x] (.val (.type "int")) := fn_typeInt
end

def pV (T : List Str) (kept : Int) (ms : List Int) : Vars := [(Str.ofString "members", .list (PI ms)), (Str.ofString "texts", .list (PS T)), (Str.ofString "kept", .int kept)]
def rV (rows : List (List Str)) (a : Addr) (p : List Int) : Vars := [(Str.ofString "rows", .list (rows.map fun r => PV.list (PS r))), (Str.ofString "far", .list ((farF rows).map fun r => PV.list (PI r))), (Str.ofString "pairs", .mut a (PI p))]
def jV (rows : List (List Str)) (a : Addr) (i : Nat) (p : List Int) : Vars := [(Str.ofString "rows", .list (rows.map fun r => PV.list (PS r))), (Str.ofString "far", .list ((farF rows).map fun r => PV.list (PI r))), (Str.ofString "i", .int (i : Int)), (Str.ofString "pairs", .mut a (PI p))]

abbrev fdPairs : FuncData := fdOf (topStmt 23) (Str.ofString "_law_pairs") .none (.str (Str.ofString "law_rl0113_01") 631) 241
abbrev envPairs (L : Addr) : Env := callEnvC fdPairs L 242
section
variable {w : World} {A : Around}

def isBetw (far : List (List Int)) (i j : Nat) (k : Int) : Bool := (fAt far i k.toNat + fAt far k.toNat j == fAt far i j)

set_option maxHeartbeats 8000000 in
theorem pairs_loops {k : Nat} {L a : Addr} {rows : List (List Str)} {s₀ s : Shared} {g₀ g : Gm} {E : Value → Shared → Prop} (hA : AOk (k + 1) A) (hn : rows.length ≤ 8)
    (hfar : ∀ i j, i < rows.length → j < rows.length → 0 ≤ fAt (farF rows) i j ∧ fAt (farF rows) i j ≤ 3)
    (S : SInv w s₀ g₀ (envPairs L) [] g₀ s g (rV rows a [0, 0, 0, 0])) :
    wpAny (MM w) A (execs ((sBody (topStmt 23)).drop 10) (envPairs L)) (RetP s₀ g₀ (.list (PI (pairsF (farF rows) rows.length)))) E s := by
  have hh := hA.1
  unfold rV at S
  have lR : (rows.map fun r => PV.list (PS r)).length ≤ 1000000 := by rw [List.length_map]; omega
  refine st_for PV.int (xs := rInts 0 1 rows.length) (fun i => rV rows a (pairOut (farF rows) rows.length i)) S (ex_callT (ex_blt gl_range bb_range rfl) (exs_cons (ex_len (ex_blt gl_len bb_len rfl) (ex_name (by walk_at "mem")) lR) exs_nil) fn_range1) (itrF_range (n := rows.length) hh (by rw [List.length_map]; exact rsmall_one _ (by omega)) (by rw [List.length_map]; exact rsize_one _)) (by rfl)
    ?_ (fun i i₀ I ob gp' s₁ g₁ E₁ hi hgp S₁ => ?_) fun s₁ g₁ E₁ S₁ => ?_
  · show ∀ q ∈ rV rows a [0, 0, 0, 0], _
    unfold rV
    walk_at "sub"
  · obtain ⟨hil, rfl⟩ := rInts_get hi
    have e0 : (0 : Int) + (i : Int) * 1 = i := by omega
    rw [e0] at S₁
    unfold rV at S₁
    refine st_for PV.int (xs := rInts 0 1 i) (fun j => jV rows a i (pairIn (farF rows) rows.length i (pairOut (farF rows) rows.length i) j)) S₁ (ex_callT (ex_blt gl_range bb_range rfl) (exs_cons (ex_name (p := .int (i : Int)) (by walk_at "mem")) exs_nil) fn_range1) (itrF_range (n := i) hh (rsmall_one _ (by omega)) (rsize_one _)) (by rfl)
      ?_ (fun j j₀ I' ob' gp'' s₂ g₂ E₂ hj hgp' S₂ => ?_) fun s₂ g₂ E₂ S₂ => ?_
    · show ∀ q ∈ jV rows a i (pairOut (farF rows) rows.length i), _
      unfold jV
      walk_at "sub"
    · obtain ⟨hjl, rfl⟩ := rInts_get hj
      have e1 : (0 : Int) + (j : Int) * 1 = j := by omega
      rw [e1] at S₂
      unfold jV at S₂
      have hjr : j < rows.length := by omega
      refine st_comp PV.int (isBetw (farF rows) i j) PV.int (xs := rInts 0 1 rows.length) S₂ (ex_callT (ex_blt gl_range bb_range rfl) (exs_cons (ex_len (ex_blt gl_len bb_len rfl) (ex_name (p := .list (rows.map fun r => PV.list (PS r))) (by walk_at "mem")) lR) exs_nil) fn_range1) (itr_range (n := rows.length) hh (by rw [List.length_map]; exact rsmall_one _ (by omega)) (by rw [List.length_map]; exact rsize_one _)) (fun C q hq => tf_one ?_) (fun C q hq _ => ex_name (by walk_at "mem")) (fun _ _ _ => rfl) (by rw [rInts_length]; omega) (.inl rfl) (by rfl) fun s₃ g₃ S₃ => ?_
      · obtain ⟨q0, q1⟩ := rInts_mem hq
        have eq : (q.toNat : Int) = q := by omega
        refine tr_cmp (cm_eq_int (i := fAt (farF rows) i q.toNat + fAt (farF rows) q.toNat j) (j := fAt (farF rows) i j)) (ex_bin bi_add (ex_far (ex_name (by walk_at "mem")) (ex_name (by walk_at "mem")) (Ex.eq (ex_name (p := .int q) (by walk_at "mem")) (by rw [eq])) hil (by omega) (by omega)) (ex_far (ex_name (by walk_at "mem")) (Ex.eq (ex_name (p := .int q) (by walk_at "mem")) (by rw [eq])) (ex_name (by walk_at "mem")) (by omega) hjr (by omega))) (ex_far (ex_name (by walk_at "mem")) (ex_name (by walk_at "mem")) (ex_name (by walk_at "mem")) hil hjr (by omega))
      replace S₃ : SInv w s₀ g₀ (envPairs L) _ _ s₃ g₃ (upd (Str.ofString "between") (.list (PI ((rInts 0 1 rows.length).filter (isBetw (farF rows) i j)))) _) := S₃
      obtain ⟨f0, f3⟩ := hfar i j hil hjr
      have lb : (PI ((rInts 0 1 rows.length).filter (isBetw (farF rows) i j))).length ≤ 1000000 := by rw [pi_len]; exact Nat.le_trans (List.length_filter_le _ _) (by rw [rInts_length]; omega)
      have pl := pairIn_len (farF rows) rows.length i (pairOut (farF rows) rows.length i) j
      rw [pairOut_len] at pl
      refine st_if (c := ((betw (farF rows) rows.length i j : Int) == 2 ^ (fAt (farF rows) i j).toNat)) S₃ (tr_cmp cm_eq_int (Ex.eq (ex_len (ex_blt gl_len bb_len rfl) (ex_name (p := .list (PI ((rInts 0 1 rows.length).filter (isBetw (farF rows) i j)))) (by walk_at "mem")) lb) (by rw [pi_len]; rfl)) (ex_bin (bi_pow f0 (by rw [bits_two]; omega)) ex_int (ex_far (ex_name (by walk_at "mem")) (ex_name (by walk_at "mem")) (ex_name (by walk_at "mem")) hil hjr (by omega)))) (fun hc s₄ g₄ S₄ => ?_) fun hc s₄ g₄ S₄ => ?_
      · refine st_augset S₄ (a := a) (l := PI (pairIn (farF rows) rows.length i (pairOut (farF rows) rows.length i) j)) (i := fAt (farF rows) i j) (p := .int ((pairIn (farF rows) rows.length i (pairOut (farF rows) rows.length i) j).getD (fAt (farF rows) i j).toNat 0)) (q := .int 1) (by walk_at "mem") ?sole (ex_far (ex_name (by walk_at "mem")) (ex_name (by walk_at "mem")) (ex_name (by walk_at "mem")) hil hjr (by omega)) f0 (by rw [pi_len, pl]; omega) (pi_get (by omega)) ex_int rfl ip_add fun s₅ g₅ S₅ => ?_
        case sole => walk_at "sole"
        rw [pi_set] at S₅
        refine st_nil (st_nil ⟨g₅, S₅.less ?_⟩)
        have e2 : pairIn (farF rows) rows.length i (pairOut (farF rows) rows.length i) (j + 1) = (pairIn (farF rows) rows.length i (pairOut (farF rows) rows.length i) j).set (fAt (farF rows) i j).toNat ((pairIn (farF rows) rows.length i (pairOut (farF rows) rows.length i) j).getD (fAt (farF rows) i j).toNat 0 + 1) := by
          show pairStep _ _ _ _ _ = _
          unfold pairStep
          rw [if_pos hc]
        rw [e2]
        unfold jV
        walk_at "sub"
      · refine st_nil (st_nil ⟨g₄, S₄.less ?_⟩)
        have e2 : pairIn (farF rows) rows.length i (pairOut (farF rows) rows.length i) (j + 1) = pairIn (farF rows) rows.length i (pairOut (farF rows) rows.length i) j := by
          show pairStep _ _ _ _ _ = _
          unfold pairStep
          rw [hc, if_neg (by decide)]
        rw [e2]
        unfold jV
        walk_at "sub"
    · rw [rInts_length] at S₂
      unfold jV at S₂
      refine st_nil (st_nil ⟨g₂, S₂.less ?_⟩)
      show ∀ q ∈ rV rows a (pairIn (farF rows) rows.length i (pairOut (farF rows) rows.length i) i), _
      unfold rV
      walk_at "sub"
  · rw [rInts_length] at S₁
    unfold rV at S₁
    refine st_nil ?_
    show wpAny _ _ _ _ _ _
    obtain ⟨g₂, S₂⟩ := S₁.freeze (x := Str.ofString "pairs") (a := a) (l := PI (pairOut (farF rows) rows.length rows.length)) (by walk_at "mem") (by show Sole _ _ _; walk_at "sole")
    exact st_return (p := .list (PI (pairsF (farF rows) rows.length))) S₂ (Ex.eq (ex_name (p := .list (PI (pairOut (farF rows) rows.length rows.length))) (by walk_at "mem")) rfl) rfl
end
end Mine
end
noncomputable section
open PySem PySem.W PySem.Calls PyProof.Rows
namespace Mine

local macro_rules | `(tactic| walk_at "mem") => `(tactic| first
  | with_reducible exact List.mem_cons_self
  | ((with_reducible refine List.mem_cons_of_mem _ ?_); walk_at "mem")
  | ((with_reducible refine mem_cap ?hm ?hc); (case hc => rfl); (case hm => walk_at "mem"))
  | with_reducible exact mem_upd_self
  | ((with_reducible refine mem_upd ?hm ?hc); (case hc => rfl); (case hm => walk_at "mem")))
local macro_rules | `(tactic| walk_at "sub") => `(tactic| first
  | with_reducible exact sub_nil
  | ((with_reducible refine sub_cons ?hm ?hc); (case hc => walk_at "sub"); (case hm => walk_at "mem")))

def zX : Str := Str.ofString "0X0"
def zx : Str := Str.ofString "0x0"
def lstS (one : List Str) : PV := .list (PS one)
def lstI (r : List Int) : PV := .list (PI r)
def splP (x : Str) : PV := .list (PS (splitC x))
def rowP (words one : List Str) : PV := .list (PS (rowF words one))
def wordP (one : List Str) (x : Str) : PV := .str (wordIn one x)
def distP (mc : Int) (a b : List Str) : PV := .int (dist mc a b)
def distsP (rows : List (List Str)) (a : List Str) : PV := .list (PI (rows.map (dist 3 a)))
def tP (T : List Str) (v : Int) : PV := .str (tAt T v)
def d5 (rows : List (List Str)) (a : List Str) : Int := dist 3 a (rows.getD 0 []) + 2
def d5P (rows : List (List Str)) (a : List Str) : PV := .int (d5 rows a)
def h2 (r : List Int) : Int := r.getD 0 0 + 2
def h2P (r : List Int) : PV := .int (h2 r)
theorem zok : srFail codeN (Txt.lower zX) = true ∧ srFail codeN (Txt.lower zx) = true ∧ (Txt.lower zX).cps.size ≤ 900 ∧ (Txt.lower zx).cps.size ≤ 900 ∧ zX.length ≤ 900 ∧ zx.length ≤ 900 := by decide +kernel
theorem h2_far {rows : List (List Str)} (h : 0 < rows.length) : (farF rows).map h2 = rows.map (d5 rows) := by
  unfold farF
  rw [List.map_map]
  refine List.map_congr_left fun a _ => ?_
  show (rows.map (dist 3 a)).getD 0 0 + 2 = dist 3 a (rows.getD 0 []) + 2
  cases rows with
  | nil => exact absurd h (Nat.lt_irrefl _)
  | cons r rs => rfl

section
variable {w : World} {A : Around}
set_option maxHeartbeats 8000000 in
theorem fn_pairs {k : Nat} (hA : AOk (k + 4) A) (ms : List Int) (T : List Str) (kept : Int) (hT : ∀ x ∈ T, okText x = true) (hTl : T.length = 8) (hm : ∀ v ∈ ms, 0 ≤ v ∧ v < 8) (hr : ∀ v ∈ ms, 0 ≤ Builtin.bitAnd v 0 ∧ Builtin.bitAnd v 0 < 8) (hn : ms.length ≤ 8) (hp : 0 < ms.length)
    (ht1 : getAllF (tabF T 0 ms) (Txt.lower zX) = ms.map (tAt T)) (ht2 : getAllF (tabF T 0 ms) (Txt.lower zx) = ms.map (tAt T)) (hsp : ∀ v ∈ ms, (splitC (tAt T v)).length ≤ 1000)
    (hlev : ∀ a ∈ rowsF T ms kept, ∀ b ∈ rowsF T ms kept, lev a b 3 = some (dist 3 a b)) (hlev5 : ∀ a ∈ rowsF T ms kept, lev (a ++ [zx]) ((rowsF T ms kept).getD 0 []) 5 = some (d5 (rowsF T ms kept) a))
    (hfar : ∀ i j, i < (rowsF T ms kept).length → j < (rowsF T ms kept).length → 0 ≤ fAt (farF (rowsF T ms kept)) i j ∧ fAt (farF (rowsF T ms kept)) i j ≤ 3) :
    Fn w A (.ref 242) [.list (PI ms), .list (PS T), .int kept] (.list (PI (pairsF (farF (rowsF T ms kept)) (rowsF T ms kept).length))) := by
  refine fn_intro (xs := [Str.ofString "members", Str.ofString "texts", Str.ofString "kept"]) hA (by rfl) rfl rfl rfl (by rfl) ?bind rfl (by decide) (by rfl) rfl rfl rfl rfl rfl rfl ?_
  case bind => intro vs h; match vs, h with | [v, u, z], _ => rfl
  intro L s₀ g₀ s g E S hA'
  have hh := hA'.1
  replace hA' : AOk (k + 3) (A.deeper (envPairs L)) := hA'
  have hu : (A.deeper (envPairs L)).units + 64 < cLine := by have := hA'.2.2; show _ < 9900; omega
  replace S : SInv w s₀ g₀ (envPairs L) [] g₀ s g [(Str.ofString "members", .list (PI ms)), (Str.ofString "texts", .list (PS T)), (Str.ofString "kept", .int kept)] := S
  obtain ⟨z1, z2, z3, z4, z5, z6⟩ := zok
  have tm : ∀ v ∈ ms, okText (tAt T v) = true := fun v hv => hT _ (tAt_mem (hm v hv).1 (by have := (hm v hv).2; omega))
  -- words
  refine st_assign S (p := .list (PS (wordsF T kept))) (Ex.eq (ex_comp PV.int (onSide kept) (tP T) (xs := ([1, 2, 4] : List Int)) (ex_list (exs_cons ex_int (exs_cons ex_int (exs_cons ex_int exs_nil))) (by decide)) (itr_list hh rfl) (fun C q hq => tf_one (tr_val (ex_bin bi_and (ex_name (by walk_at "mem")) (ex_name (by walk_at "mem"))) ty_int)) (fun C q hq _ => ?_) (fun _ _ _ => rfl) (by decide) (.inl rfl)) (by unfold wordsF PS; rw [List.map_map]; rfl)) rfl (by rfl) fun s₁ g₁ S₁ => ?_
  · have : 0 ≤ q ∧ q < 8 := by simp at hq; omega
    exact ex_tAt (ex_name (by walk_at "mem")) (ex_name (by walk_at "mem")) this.1 (by omega) (by omega)
  have wl : (wordsF T kept).length ≤ 3 := by unfold wordsF; rw [List.length_map]; exact List.length_filter_le _ _
  have wt : ∀ x ∈ wordsF T kept, okText x = true := fun x hx => by
    obtain ⟨q, hq, rfl⟩ := List.mem_map.mp hx
    have hq' := (List.mem_filter.mp hq).1
    have : 0 ≤ q ∧ q < 8 := by simp at hq'; omega
    exact hT _ (tAt_mem this.1 (by omega))
  -- the table
  refine st_assign S₁ (ex_callF (ex_glob gl_law_table (fun g => .val _) rfl) (exs_cons (ex_name (p := .list (PI ms)) (by walk_at "mem")) (exs_cons (ex_name (p := .list (PS T)) (by walk_at "mem")) (exs_cons (ex_int (i := 0)) exs_nil))) (fn_table hA' ms T 0 hT hTl hm hr (by omega)) (by rfl) rfl) rfl (by rfl) fun s₂ g₂ S₂ => ?_
  have ents := tabF_names (ms := ms) hT hTl hr
  have tl : (tabF T 0 ms).length ≤ 100000 := by simp [tabF]; omega
  refine st_assign S₂ (p := .list (PS (ms.map (tAt T)))) (Ex.eq (ex_methI (f := 121) (ex_name (p := .hdr (tabF T 0 ms)) (by walk_at "mem")) inst_hdr rfl (exs_cons (ex_str (x := zX)) exs_nil) (fn_getAll hA' (tabF T 0 ms) zX (by omega) z1 (by omega) ents tl) (find_all _) (by rfl) (by rfl) (by decide)) (by rw [ht1])) rfl (by rfl) fun s₃ g₃ S₃ => ?_
  have tok : ∀ x ∈ ms.map (tAt T), PyData.strOk x = true := fun x hx => by obtain ⟨v, hv, rfl⟩ := List.mem_map.mp hx; exact okText_s (tm v hv)
  refine st_if (c := (!decide (ms.map (tAt T) = ms.map (tAt T))) || ((!decide (ms.map (tAt T) = ms.map (tAt T))) || false)) S₃ (tr_or (ot_cons (tr_cmp (cm_ne_strs (p := .list (PS (ms.map (tAt T)))) (q := .list (PS (ms.map (tAt T)))) rfl rfl hu tok tok) (ex_name (by walk_at "mem")) ?_) fun _ => ot_cons (tr_cmp (cm_ne_strs (p := .list (PS (ms.map (tAt T)))) (q := .list (PS (ms.map (tAt T)))) rfl rfl hu tok tok) ?_ (ex_name (by walk_at "mem"))) fun _ => ot_nil)) (fun hc => by simp at hc) fun hc s₄ g₄ S₄ => st_nil ?_
  · exact Ex.eq (ex_compM PV.int (tP T) (xs := ms) (ex_name (p := .list (PI ms)) (by walk_at "mem")) (itr_list hh rfl) (fun C v hv => ex_tAt (ex_name (by walk_at "mem")) (ex_name (by walk_at "mem")) (hm v hv).1 (by have := (hm v hv).2; omega) (by omega)) (fun _ _ => rfl) (by omega) (.inl rfl)) (by unfold PS; rw [List.map_map]; rfl)
  · exact Ex.eq (ex_methI (f := 121) (ex_name (p := .hdr (tabF T 0 ms)) (by walk_at "mem")) inst_hdr rfl (exs_cons (ex_str (x := zx)) exs_nil) (fn_getAll hA' (tabF T 0 ms) zx (by omega) z2 (by omega) ents tl) (find_all _) (by rfl) (by rfl) (by decide)) (by rw [ht2])
  show wpAny _ _ _ _ _ _
  -- shown
  refine st_comp PV.str (fun _ => true) splP (xs := ms.map (tAt T)) S₄ (ex_name (p := .list (PS (ms.map (tAt T)))) (by walk_at "mem")) (itr_list hh rfl) (fun C q hq => tf_nil) (fun C q hq _ => ?_) (fun _ _ _ => rfl) (by rw [List.length_map]; omega) (.inl rfl) (by rfl) fun s₅ g₅ S₅ => ?_
  · obtain ⟨v, hv, rfl⟩ := List.mem_map.mp hq
    exact ex_split (ex_name (by walk_at "mem")) (exs_cons ex_str exs_nil) (by decide) (Nat.le_trans (okText_z (tm v hv)) (by omega)) (Nat.le_trans (hsp v hv) (by omega))
  rw [filter_all] at S₅
  have es : (ms.map (tAt T)).map splP = (ms.map fun v => splitC (tAt T v)).map lstS := by rw [List.map_map, List.map_map]; rfl
  rw [es] at S₅
  -- rows
  have rl : (rowsF T ms kept).length = ms.length := by unfold rowsF; rw [List.length_map]
  refine st_assign S₅ (p := .list ((rowsF T ms kept).map fun r => PV.list (PS r))) (Ex.eq (ex_compM lstS (rowP (wordsF T kept)) (xs := ms.map fun v => splitC (tAt T v)) (ex_name (p := .list ((ms.map fun v => splitC (tAt T v)).map lstS)) (by walk_at "mem")) (itr_list hh rfl) (fun C one hone => ?_) (fun _ _ => rfl) (by rw [List.length_map]; omega) (.inr rfl)) (by unfold rowsF; rw [List.map_map, List.map_map]; rfl)) rfl (by rfl) fun s₆ g₆ S₆ => ?_
  · refine Ex.eq (ex_compM PV.str (wordP one) (xs := wordsF T kept) (ex_name (p := .list (PS (wordsF T kept))) (by walk_at "mem")) (itr_list hh rfl) (fun C' x hx => ?_) (fun _ _ => rfl) (by omega) (.inl rfl)) (by unfold rowP rowF PS; rw [List.map_map]; rfl)
    refine ex_if (c := one.any (· == x)) (tr_cmp (cm_in_strs (q := .list (PS one)) rfl) (ex_name (by walk_at "mem")) (ex_name (p := lstS one) (by walk_at "mem"))) (fun hc => ?_) fun hc => ?_
    · exact Ex.eq (ex_name (p := .str x) (by walk_at "mem")) (by unfold wordP wordIn; rw [if_pos hc])
    · exact Ex.eq (ex_lower (ex_name (p := .str x) (by walk_at "mem")) (Nat.le_trans (okText_z (wt x hx)) (by omega))) (by unfold wordP wordIn; rw [hc, if_neg (by decide)])
  -- far
  have rw1 : ∀ a ∈ rowsF T ms kept, a.length ≤ 3 ∧ ∀ x ∈ a, x.length ≤ 1000 := fun a ha => by
    obtain ⟨v, hv, rfl⟩ := List.mem_map.mp ha
    refine ⟨by show (List.map _ _).length ≤ 3; rw [List.length_map]; exact wl, fun x hx => ?_⟩
    obtain ⟨y, hy, rfl⟩ := List.mem_map.mp hx
    exact wordIn_len (wt y hy)
  generalize hR : rowsF T ms kept = rows at *
  refine st_assign S₆ (p := .list ((farF rows).map fun r => PV.list (PI r))) (Ex.eq (ex_compM lstS (distsP rows) (xs := rows) (ex_name (p := .list (rows.map fun r => PV.list (PS r))) (by walk_at "mem")) (itr_list hh rfl) (fun C one hone => ?_) (fun _ _ => rfl) (by omega) (.inr rfl)) (by unfold farF; rw [List.map_map]; rfl)) rfl (by rfl) fun s₇ g₇ S₇ => ?_
  · refine Ex.eq (ex_compM lstS (distP 3 one) (xs := rows) (ex_name (p := .list (rows.map fun r => PV.list (PS r))) (by walk_at "mem")) (itr_list hh rfl) (fun C' other ho => ?_) (fun _ _ => rfl) (by omega) (.inl rfl)) (by unfold distsP PI; rw [List.map_map]; rfl)
    exact ex_callF (p := distP 3 one other) (ex_glob gl_levenshtein_distance (fun g => .val _) rfl) (exs_cons (ex_name (p := lstS one) (by walk_at "mem")) (exs_cons (ex_name (p := lstS other) (by walk_at "mem")) (exs_cons (ex_int (i := 3)) exs_nil))) (fn_lev (k := k) hA'.less one other 3 (dist 3 one other) (by have := (rw1 one hone).1; omega) (by have := (rw1 other ho).1; omega) (rw1 one hone).2 (rw1 other ho).2 (hlev one hone other ho)) (by rfl) rfl
  -- pairs
  refine st_assignL S₇ (exL_four (i := 0) (exs_cons ex_int exs_nil) ex_int) (by rfl) fun a s₈ g₈ S₈ => ?_
  -- the first check
  refine st_if (c := !decide (([] : List Int) = [])) S₈ (tr_cmp (cm_ne_ints (p := .list (PI [])) (q := .list (PI [])) rfl rfl hu) (ex_compTwo lstI PV.int (fun r => r) lstI (xs := farF rows) (ex_name (p := .list ((farF rows).map fun r => PV.list (PI r))) (by walk_at "mem")) (itr_list hh rfl) (fun C q hq => ex_name (by walk_at "mem")) (fun q hq => itrF_list hh) (fun C q r hq hr => tf_one (tr_cmp (cm_isnot_val (a := .type "int") (b := .type "int") (by rfl)) (ex_callT (ex_blt gl_type bb_type rfl) (exs_cons (ex_name (p := .int r) (by walk_at "mem")) exs_nil) fn_typeInt) (ex_blt gl_int bb_int rfl))) rfl rfl) (ex_list exs_nil)) (fun hc => by simp at hc) fun hc s₉ g₉ S₉ => st_nil ?_
  show wpAny _ _ _ _ _ _
  -- the second check
  have rp : 0 < rows.length := by omega
  refine st_if (c := !decide (rows.map (d5 rows) = (farF rows).map h2)) S₉ (tr_cmp (cm_ne_ints (p := .list (PI (rows.map (d5 rows)))) (q := .list (PI ((farF rows).map h2))) rfl rfl hu) ?_ ?_) (fun hc => by rw [h2_far rp] at hc; simp at hc) fun hc sa ga Sa => st_nil ?_
  · refine Ex.eq (ex_compM lstS (d5P rows) (xs := rows) (ex_name (p := .list (rows.map fun r => PV.list (PS r))) (by walk_at "mem")) (itr_list hh rfl) (fun C one hone => ?_) (fun _ _ => rfl) (by omega) (.inl rfl)) (by unfold PI; rw [List.map_map]; rfl)
    have q0 : rows.getD 0 [] ∈ rows := by
      rw [List.getD_eq_getElem?_getD, List.getElem?_eq_getElem rp]; exact List.getElem_mem ..
    refine ex_callF (p := d5P rows one) (ex_glob gl_levenshtein_distance (fun g => .val _) rfl) (exs_cons (p := .list (PS (one ++ [zx]))) (Ex.eq (ex_bin (bi_addL (p := .list (PS one)) (q := .list [.str zx]) rfl rfl (by rw [ps_len]; have := (rw1 one hone).1; simp; omega)) (ex_name (p := lstS one) (by walk_at "mem")) (ex_list (exs_cons (ex_str (x := zx)) exs_nil))) (by simp [PS])) (exs_cons (p := .list (PS (rows.getD 0 []))) (ex_sub (p := .list (rows.map fun r => PV.list (PS r))) (l := rows.map fun r => PV.list (PS r)) (i := 0) (ex_name (by walk_at "mem")) rfl ex_int (by omega) (by omega) (strs_get rp)) (exs_cons (ex_int (i := 5)) exs_nil))) (fn_lev (k := k) hA'.less (one ++ [zx]) (rows.getD 0 []) 5 (d5 rows one) ?_ ?_ ?_ (rw1 _ q0).2 (hlev5 one hone)) (by rfl) rfl
    · rw [List.length_append]; have := (rw1 one hone).1; simp; omega
    · have := (rw1 _ q0).1; omega
    · intro x hx
      rcases List.mem_append.mp hx with h | h
      · exact (rw1 one hone).2 x h
      · simp at h; subst h; omega
  · refine Ex.eq (ex_compM lstI h2P (xs := farF rows) (ex_name (p := .list ((farF rows).map fun r => PV.list (PI r))) (by walk_at "mem")) (itr_list hh rfl) (fun C r hr' => ?_) (fun _ _ => rfl) (by simp [farF]; omega) (.inl rfl)) (by unfold PI; rw [List.map_map]; rfl)
    obtain ⟨a', ha', rfl⟩ := List.mem_map.mp hr'
    exact ex_bin bi_add (ex_sub (p := .list (PI (rows.map (dist 3 a')))) (l := PI (rows.map (dist 3 a'))) (i := 0) (ex_name (p := lstI (rows.map (dist 3 a'))) (by walk_at "mem")) rfl ex_int (by omega) (by omega) (pi_get (by rw [List.length_map]; exact rp))) ex_int
  show wpAny _ _ _ _ _ _
  exact pairs_loops (k := k) hA'.less (by omega) hfar (Sa.less (by unfold rV; walk_at "sub"))
end
end Mine
end
noncomputable section
open PySem PySem.W PySem.Calls PyProof.Rows
namespace Mine

local macro_rules | `(tactic| walk_at "mem") => `(tactic| first
  | with_reducible exact List.mem_cons_self
  | ((with_reducible refine List.mem_cons_of_mem _ ?_); walk_at "mem")
  | ((with_reducible refine mem_cap ?hm ?hc); (case hc => rfl); (case hm => walk_at "mem"))
  | with_reducible exact mem_upd_self
  | ((with_reducible refine mem_upd ?hm ?hc); (case hc => rfl); (case hm => walk_at "mem")))
local macro_rules | `(tactic| walk_at "sub") => `(tactic| first
  | with_reducible exact sub_nil
  | ((with_reducible refine sub_cons ?hm ?hc); (case hc => walk_at "sub"); (case hm => walk_at "mem")))
local macro_rules | `(tactic| walk_at "sole") => `(tactic| first
  | with_reducible exact sole_nil
  | ((with_reducible refine sole_upd ?hm ?hp); (case hp => (first | (intro _ _ e; cases e; done) | exact fun _ _ _ => .inl rfl)); (case hm => walk_at "sole"))
  | ((with_reducible refine sole_cons ?hm ?hp); (case hp => (first | (intro _ _ e; cases e; done) | exact fun _ _ _ => .inl rfl)); (case hm => walk_at "sole")))

noncomputable def numAt (ns : List Int) : Nat → List Int
  | 0 => [0, 1, 2, 4, 0, 3]
  | k + 1 => (numAt ns k).set (k % 6) ((numAt ns k).getD (k % 6) 0 + ns.getD k 0)
def numbersF (ns : List Int) : List Int := numAt ns ns.length
theorem numAt_len (ns : List Int) : ∀ k, (numAt ns k).length = 6
  | 0 => rfl
  | k + 1 => by show (List.set _ _ _).length = 6; rw [List.length_set, numAt_len ns k]
def nV (ns : List Int) (a : Addr) (p : List Int) : Vars := [(Str.ofString "script", .list (PI ns)), (Str.ofString "numbers", .mut a (PI p))]

section
variable {w : World} {A : Around}
set_option maxHeartbeats 4000000 in
theorem fn_numbers {k : Nat} (hA : AOk (k + 1) A) (ns : List Int) (hn : ns.length ≤ 63) : Fn w A (.ref 215) [.list (PI ns)] (.list (PI (numbersF ns))) := by
  refine fn_intro (xs := [Str.ofString "script"]) hA (by rfl) rfl rfl rfl (by rfl) ?bind rfl (by decide) (by rfl) rfl rfl rfl rfl rfl rfl ?_
  case bind => intro vs h; match vs, h with | [v], _ => rfl
  intro L s₀ g₀ s g E S hA'
  have hh := hA'.1
  replace S : SInv w s₀ g₀ _ [] g₀ s g [(Str.ofString "script", .list (PI ns))] := S
  have lN : (PI ns).length ≤ 1000000 := by rw [pi_len]; omega
  refine st_assignL S (exL_list (ps := PI [0, 1, 2, 4, 0, 3]) (exs_cons ex_int (exs_cons ex_int (exs_cons ex_int (exs_cons ex_int (exs_cons ex_int (exs_cons ex_int exs_nil)))))) (by decide) flat_ints) (by rfl) fun a s₁ g₁ S₁ => ?_
  refine st_for PV.int (xs := rInts 0 1 ns.length) (fun i => nV ns a (numAt ns i)) S₁ (ex_callT (ex_blt gl_range bb_range rfl) (exs_cons (ex_len (ex_blt gl_len bb_len rfl) (ex_name (p := .list (PI ns)) (by walk_at "mem")) lN) exs_nil) fn_range1) (itrF_range (n := ns.length) hh (by rw [pi_len]; exact rsmall_one _ (by omega)) (by rw [pi_len]; exact rsize_one _)) (by rfl)
    ?_ (fun i i₀ I ob gp' s₂ g₂ E₂ hi hgp S₂ => ?_) fun s₂ g₂ E₂ S₂ => ?_
  · show ∀ q ∈ nV ns a [0, 1, 2, 4, 0, 3], _
    unfold nV
    walk_at "sub"
  · obtain ⟨hil, rfl⟩ := rInts_get hi
    have e0 : (0 : Int) + (i : Int) * 1 = i := by omega
    rw [e0] at S₂
    unfold nV at S₂
    have nl := numAt_len ns i
    have em : (i : Int).fmod 6 = ((i % 6 : Nat) : Int) := by rw [Int.fmod_eq_emod_of_nonneg _ (by omega)]; omega
    have et : ((i : Int).fmod 6).toNat = i % 6 := by rw [em, Int.toNat_natCast]
    refine st_augset S₂ (a := a) (l := PI (numAt ns i)) (i := (i : Int).fmod 6) (p := .int ((numAt ns i).getD (i % 6) 0)) (q := .int (ns.getD i 0)) (by walk_at "mem") ?sole (ex_bin (bi_mod (by decide)) (ex_name (p := .int (i : Int)) (by walk_at "mem")) ex_int) (by rw [em]; omega) (by rw [pi_len, nl]; omega) (by rw [et]; exact pi_get (by omega)) (ex_sub (p := .list (PI ns)) (l := PI ns) (i := (i : Int)) (ex_name (by walk_at "mem")) rfl (ex_name (by walk_at "mem")) (by omega) (by omega) (by rw [Int.toNat_natCast]; exact pi_get hil)) rfl ip_add fun s₃ g₃ S₃ => ?_
    case sole => walk_at "sole"
    rw [et, pi_set] at S₃
    refine st_nil ⟨g₃, S₃.less ?_⟩
    show ∀ q ∈ nV ns a ((numAt ns i).set (i % 6) ((numAt ns i).getD (i % 6) 0 + ns.getD i 0)), _
    unfold nV
    walk_at "sub"
  · rw [rInts_length] at S₂
    unfold nV at S₂
    refine st_nil ?_
    show wpAny _ _ _ _ _ _
    obtain ⟨g₃, S₃⟩ := S₂.freeze (x := Str.ofString "numbers") (a := a) (l := PI (numAt ns ns.length)) (by walk_at "mem") (by show Sole _ _ _; walk_at "sole")
    exact st_return (p := .list (PI (numbersF ns))) S₃ (Ex.eq (ex_name (p := .list (PI (numAt ns ns.length))) (by walk_at "mem")) rfl) rfl
end
end Mine
end
noncomputable section
open PySem PySem.W PySem.Calls PyProof.Rows
namespace Mine

local macro_rules | `(tactic| walk_at "mem") => `(tactic| first
  | with_reducible exact List.mem_cons_self
  | ((with_reducible refine List.mem_cons_of_mem _ ?_); walk_at "mem")
  | ((with_reducible refine mem_cap ?hm ?hc); (case hc => rfl); (case hm => walk_at "mem"))
  | with_reducible exact mem_upd_self
  | ((with_reducible refine mem_upd ?hm ?hc); (case hc => rfl); (case hm => walk_at "mem")))
local macro_rules | `(tactic| walk_at "sub") => `(tactic| first
  | with_reducible exact sub_nil
  | ((with_reducible refine sub_cons ?hm ?hc); (case hc => walk_at "sub"); (case hm => walk_at "mem")))
local macro_rules | `(tactic| walk_at "sole") => `(tactic| first
  | with_reducible exact sole_nil
  | ((with_reducible refine sole_upd ?hm ?hp); (case hp => (first | (intro _ _ e; cases e; done) | exact fun _ _ _ => .inl rfl)); (case hm => walk_at "sole"))
  | ((with_reducible refine sole_cons ?hm ?hp); (case hp => (first | (intro _ _ e; cases e; done) | exact fun _ _ _ => .inl rfl)); (case hm => walk_at "sole")))

def mod8 (x : Int) : Int := x.fmod 8
def dsF (nums : List Int) : List Int := (nums.take 5).map mod8
def shF (nums : List Int) : Int := mod8 (nums.getD 5 0)
def flagAt (sh v : Int) : Str := pf (v * 2 ^ sh.toNat)
def textsF (sh : Int) : List Str := (rInts 0 1 8).map (flagAt sh)
def wholeUp (T : List Str) (ms : List Int) (kept : Int) (i : Nat) : List Int := (ms.length : Int) :: ((rInts 1 1 7).take i).map (wholeF T ms kept)
def wholeL (T : List Str) (ms : List Int) (kept : Int) : List Int := (ms.length : Int) :: (rInts 1 1 7).map (wholeF T ms kept)
def sgn (i : Nat) (x : Int) : Int := if (([0, 3, 5, 6] : List Int).any (· == (i : Int))) = true then x else -x
def signedF (wl : List Int) : List Int := enumF sgn wl
def hasSide (side p : Int) : Bool := Builtin.bitAnd p side == side
def atI (l : List Int) (i : Int) : Int := l.getD i.toNat 0
def sumAt (sg : List Int) (side : Int) : Int := (((rInts 0 1 8).filter (hasSide side)).map (atI sg)).sum
def sumsF (sg : List Int) : List Int := ([0, 1, 2, 4] : List Int).map (sumAt sg)
def negSide (kept side : Int) : Int := if onSide kept side = true then -1 else 0
def rhsF (kept : Int) : List Int := [1] ++ ([1, 2, 4] : List Int).map (negSide kept)
def dueF (wl : List Int) : List Int := [wl.getD 1 0 + wl.getD 2 0 + wl.getD 4 0, 2 * (wl.getD 3 0 + wl.getD 5 0 + wl.getD 6 0), 4 * wl.getD 7 0]
def flagP (sh v : Int) : PV := .str (flagAt sh v)
def sumP (sg : List Int) (side : Int) : PV := .int (sumAt sg side)
def atP (l : List Int) (i : Int) : PV := .int (atI l i)
def modP (x : Int) : PV := .int (mod8 x)
def negP (kept side : Int) : PV := .int (negSide kept side)

abbrev fdL (pm cd doc dV kV : Value) : FuncData := { docDef (sName (topStmt 24)) (sParams (topStmt 24)) (sBody (topStmt 24)) (sScope (topStmt 24)) pm cd doc with defaults := dV, kwdefaults := kV }
theorem mul_four_l (i : Int) : IntMulOk 4 i := by
  unfold IntMulOk
  have : decide (Builtin.Int.intBits 4 > shortFactorBits) = false := by decide +kernel
  rw [this]; simp
def wV (ms : List Int) (T : List Str) (kept : Int) (a : Addr) (wl : List Int) : Vars := [(Str.ofString "members", .list (PI ms)), (Str.ofString "texts", .list (PS T)), (Str.ofString "kept", .int kept), (Str.ofString "whole", .mut a (PI wl))]
theorem pi_take (l : List Int) (i : Nat) : (PI l).take i = PI (l.take i) := by simp [PI, List.map_take]
theorem slice5 (l : List Int) : sliceL (PI l) none (some 5) = PI (l.take 5) := by
  unfold sliceL
  simp only [Option.elim]
  have : clipAt (PI l).length ((5 : Nat) : Int) = min 5 (PI l).length := clipAt_nat _ _
  rw [show (5 : Int) = ((5 : Nat) : Int) from rfl, this, List.drop_zero, Nat.sub_zero, pi_take]
  congr 1
  by_cases h : 5 ≤ l.length
  · rw [Nat.min_eq_left (by rw [pi_len]; exact h)]
  · rw [Nat.min_eq_right (by rw [pi_len]; omega), List.take_of_length_le (by rw [pi_len]; exact Nat.le_refl _), List.take_of_length_le (by omega)]
theorem wholeUp_succ (T : List Str) (ms : List Int) (kept : Int) (i : Nat) (h : i < 7) : wholeUp T ms kept (i + 1) = wholeUp T ms kept i ++ [wholeF T ms kept ((i : Int) + 1)] := by
  unfold wholeUp
  have e : (rInts 1 1 7)[i]? = some ((i : Int) + 1) := by
    unfold rInts; rw [List.getElem?_map, List.getElem?_range h]; simp; omega
  rw [List.take_add_one, e]
  simp

structure LawOk (ms : List Int) (T : List Str) (kept : Int) (wl : List Int) : Prop where
  hT : ∀ x ∈ T, okText x = true
  hm : ∀ v ∈ ms, 0 ≤ v ∧ v < 8
  hr : ∀ v ∈ ms, ∀ p, 0 ≤ p → p < 8 → 0 ≤ Builtin.bitAnd v (restF kept p) ∧ Builtin.bitAnd v (restF kept p) < 8
  hr0 : ∀ v ∈ ms, 0 ≤ Builtin.bitAnd v 0 ∧ Builtin.bitAnd v 0 < 8
  hn : ms.length ≤ 8
  hp : 0 < ms.length
  ht1 : getAllF (tabF T 0 ms) (Txt.lower zX) = ms.map (tAt T)
  ht2 : getAllF (tabF T 0 ms) (Txt.lower zx) = ms.map (tAt T)
  hsp : ∀ v ∈ ms, (splitC (tAt T v)).length ≤ 1000
  hlev : ∀ a ∈ rowsF T ms kept, ∀ b ∈ rowsF T ms kept, lev a b 3 = some (dist 3 a b)
  hlev5 : ∀ a ∈ rowsF T ms kept, lev (a ++ [zx]) ((rowsF T ms kept).getD 0 []) 5 = some (d5 (rowsF T ms kept) a)
  hfar : ∀ i j, i < (rowsF T ms kept).length → j < (rowsF T ms kept).length → 0 ≤ fAt (farF (rowsF T ms kept)) i j ∧ fAt (farF (rowsF T ms kept)) i j ≤ 3
  hsum : sumsF (signedF wl) = rhsF kept
  hpair : pairsF (farF (rowsF T ms kept)) (rowsF T ms kept).length = [0] ++ dueF wl

section
variable {w : World} {A : Around}
set_option maxHeartbeats 8000000 in
theorem law_body {k : Nat} {L fa : Addr} {pm cd doc dV kV : Value} {ns : List Int} {s₀ s : Shared} {g₀ g : Gm} {E : Value → Shared → Prop} (hA : AOk (k + 4) A) (hn : ns.length ≤ 63)
    (hfl : ∀ v, 0 ≤ v → v < 8 → (hexS (pfAt (v * 2 ^ (shF (numbersF ns)).toNat) 32).fl).length ≤ 100 ∧ ((pfNames (v * 2 ^ (shF (numbersF ns)).toNat)).map (·.length)).sum + (pfNames (v * 2 ^ (shF (numbersF ns)).toNat)).length ≤ 1000000)
    (hO : LawOk (membersF (dsF (numbersF ns))) (textsF (shF (numbersF ns))) (keptF (membersF (dsF (numbersF ns)))) (wholeL (textsF (shF (numbersF ns))) (membersF (dsF (numbersF ns))) (keptF (membersF (dsF (numbersF ns))))))
    (S : SInv w s₀ g₀ (callEnvC (fdL pm cd doc dV kV) L fa) [] g₀ s g [(Str.ofString "script", .list (PI ns))]) :
    wpAny (MM w) A (execs (sBody (topStmt 24)) (callEnvC (fdL pm cd doc dV kV) L fa)) (RetP s₀ g₀ (.bool true)) E s := by
  have hh := hA.1
  have hu : A.units + 64 < cLine := by have := hA.2.2; show _ < 9900; omega
  refine st_assign S (ex_callF (ex_glob gl_law_numbers (fun g => .val _) rfl) (exs_cons (ex_name (p := .list (PI ns)) (by walk_at "mem")) exs_nil) (fn_numbers (k := k) hA.less ns hn) (by rfl) rfl) rfl (by rfl) fun s₁ g₁ S₁ => ?_
  have nl : (numbersF ns).length = 6 := numAt_len _ _
  generalize numbersF ns = nums at *
  have lN : (PI nums).length ≤ 1000000 := by rw [pi_len]; omega
  have dl : (dsF nums).length = 5 := by unfold dsF; rw [List.length_map, List.length_take, nl]; rfl
  refine st_assign S₁ (ex_callF (ex_glob gl_law_members (fun g => .val _) rfl) (exs_cons (p := .list (PI (dsF nums))) (Ex.eq (ex_compM PV.int modP (xs := nums.take 5) (Ex.eq (ex_slice (p := .list (PI nums)) (ex_name (by walk_at "mem")) rfl pt_none (pt_int ex_int) lN) (by rw [slice5])) (itr_list hh rfl) (fun C q hq => ex_bin (bi_mod (by decide)) (ex_name (by walk_at "mem")) ex_int) (fun _ _ => rfl) (by rw [List.length_take]; omega) (.inl rfl)) (by unfold dsF PI; rw [List.map_map]; rfl)) exs_nil) (fn_members (k := k) hA.less (dsF nums) (by omega)) (by rfl) rfl) rfl (by rfl) fun s₂ g₂ S₂ => ?_
  generalize membersF (dsF nums) = ms at *
  have ml := hO.hn
  refine st_assign S₂ (ex_callF (ex_glob gl_law_kept (fun g => .val _) rfl) (exs_cons (ex_name (p := .list (PI ms)) (by walk_at "mem")) exs_nil) (fn_kept (k := k) hA.less ms (by omega)) (by rfl) rfl) rfl (by rfl) fun s₃ g₃ S₃ => ?_
  generalize keptF ms = kept at *
  have s0 : 0 ≤ shF nums ∧ shF nums < 8 := by unfold shF mod8; rw [Int.fmod_eq_emod_of_nonneg _ (by omega)]; omega
  refine st_comp PV.int (fun _ => true) (flagP (shF nums)) (xs := rInts 0 1 8) S₃ (ex_callT (ex_blt gl_range bb_range rfl) (exs_cons ex_int exs_nil) fn_range1) (itr_range (n := 8) hh rfl rfl) (fun C q hq => tf_nil) (fun C q hq _ => ?_) (fun _ _ _ => rfl) (by decide) (.inl rfl) (by rfl) fun s₄ g₄ S₄ => ?_
  · obtain ⟨q0, q8⟩ := rInts_mem hq
    obtain ⟨f1, f2⟩ := hfl q q0 q8
    refine ex_callF (ps := [.int (q * 2 ^ (shF nums).toNat)]) (ex_glob gl_pretty_flags (fun g => .val _) rfl) (exs_cons (ex_bin (bi_shl s0.1 (by omega) ?_) (ex_name (by walk_at "mem")) (ex_bin (bi_mod (by decide)) (ex_sub (p := .list (PI nums)) (l := PI nums) (i := 5) (ex_name (by walk_at "mem")) rfl ex_int (by omega) (by omega) (pi_get (by rw [nl]; decide))) ex_int)) exs_nil) (fn_flags (k := k) hA.less (q * 2 ^ (shF nums).toNat) f1 f2) (by rfl) rfl
    have : q.natAbs < 8 := by omega
    exact Nat.lt_trans this (by simp)
  rw [filter_all] at S₄
  have et : (rInts 0 1 8).map (flagP (shF nums)) = PS (textsF (shF nums)) := by unfold textsF PS; rw [List.map_map]; rfl
  rw [et] at S₄
  have Tl : (textsF (shF nums)).length = 8 := by unfold textsF; rw [List.length_map]; rfl
  generalize textsF (shF nums) = T at *
  refine st_assignL S₄ (exL_list (ps := PI [(ms.length : Int)]) (exs_cons (Ex.eq (ex_len (ex_blt gl_len bb_len rfl) (ex_name (p := .list (PI ms)) (by walk_at "mem")) (by rw [pi_len]; omega)) (by rw [pi_len])) exs_nil) (by show 1 ≤ 1000; decide) flat_ints) (by rfl) fun a s₅ g₅ S₅ => ?_
  refine st_for PV.int (xs := rInts 1 1 7) (fun i => wV ms T kept a (wholeUp T ms kept i)) S₅ (ex_callT (ex_blt gl_range bb_range rfl) (exs_cons ex_int (exs_cons ex_int exs_nil)) fn_range2) (itrF_range (n := 7) hh rfl rfl) (by rfl)
    ?_ (fun i i₀ I ob gp' s₆ g₆ E₆ hi hgp S₆ => ?_) fun s₆ g₆ E₆ S₆ => ?_
  · show ∀ q ∈ wV ms T kept a [(ms.length : Int)], _
    unfold wV
    walk_at "sub"
  · obtain ⟨hi7, rfl⟩ := rInts_get hi
    have e0 : (1 : Int) + (i : Int) * 1 = (i : Int) + 1 := by omega
    rw [e0] at S₆
    unfold wV at S₆
    have lw : (PI (wholeUp T ms kept i)).length ≤ 100000 := by rw [pi_len]; unfold wholeUp; rw [List.length_cons, List.length_map, List.length_take, rInts_length]; omega
    refine st_append S₆ (a := a) (l := PI (wholeUp T ms kept i)) (p := .int (wholeF T ms kept ((i : Int) + 1))) (by walk_at "mem") ?sole (ex_callF (ex_glob gl_law_whole (fun g => .val _) rfl) (exs_cons (ex_name (p := .list (PI ms)) (by walk_at "mem")) (exs_cons (ex_name (p := .list (PS T)) (by walk_at "mem")) (exs_cons (ex_name (p := .int kept) (by walk_at "mem")) (exs_cons (ex_name (p := .int ((i : Int) + 1)) (by walk_at "mem")) exs_nil)))) (fn_whole (k := k) hA ms T kept ((i : Int) + 1) hO.hT Tl hO.hm (fun v hv => hO.hr v hv _ (by omega) (by omega)) (by omega) (by omega) (by omega)) (by rfl) rfl) rfl lw fun s₇ g₇ S₇ => ?_
    case sole => walk_at "sole"
    have ea : PI (wholeUp T ms kept i) ++ [PV.int (wholeF T ms kept ((i : Int) + 1))] = PI (wholeUp T ms kept (i + 1)) := by rw [wholeUp_succ T ms kept i hi7]; simp [PI]
    rw [ea] at S₇
    refine st_nil ⟨g₇, S₇.less ?_⟩
    unfold wV
    walk_at "sub"
  rw [rInts_length] at S₆
  have ew : wholeUp T ms kept 7 = wholeL T ms kept := by unfold wholeUp wholeL; rw [List.take_of_length_le (by rw [rInts_length]; exact Nat.le_refl _)]
  rw [ew] at S₆
  unfold wV at S₆
  refine st_nil ?_
  show wpAny _ _ _ _ _ _
  have wl8 : (wholeL T ms kept).length = 8 := by unfold wholeL; rw [List.length_cons, List.length_map, rInts_length]
  obtain ⟨g₇, S₇⟩ := S₆.freeze (x := Str.ofString "whole") (a := a) (l := PI (wholeL T ms kept)) (by walk_at "mem") (by show Sole _ _ _; walk_at "sole")
  generalize wholeL T ms kept = wl at *
  -- signed
  refine st_assign S₇ (p := .list (PI (signedF wl))) (ex_enum (l := wl) sgn hh (ex_name (by walk_at "mem")) (ex_blt gl_enumerate bb_enumerate rfl) (by omega) (fun C i hi => ?_) rfl rfl (by decide)) rfl (by rfl) fun s₈ g₈ S₈ => ?_
  · refine ex_if (c := ([0, 3, 5, 6] : List Int).any (· == (i : Int))) (tr_cmp (cm_in_ints (q := .list (PI [0, 3, 5, 6])) rfl) (ex_name (by walk_at "mem")) (ex_list (exs_cons ex_int (exs_cons ex_int (exs_cons ex_int (exs_cons ex_int exs_nil)))) (by decide))) (fun hc => ?_) fun hc => ?_
    · exact Ex.eq (ex_name (p := .int (wl.getD i 0)) (by walk_at "mem")) (by unfold sgn; rw [if_pos hc])
    · exact Ex.eq (ex_neg (ex_name (p := .int (wl.getD i 0)) (by walk_at "mem"))) (by unfold sgn; rw [hc, if_neg (by decide)])
  have sl : (signedF wl).length = 8 := by unfold signedF enumF; rw [List.length_map, List.length_range, wl8]
  -- sums
  refine st_comp PV.int (fun _ => true) (sumP (signedF wl)) (xs := ([0, 1, 2, 4] : List Int)) S₈ (ex_list (exs_cons ex_int (exs_cons ex_int (exs_cons ex_int (exs_cons ex_int exs_nil)))) (by decide)) (itr_list hh rfl) (fun C q hq => tf_nil) (fun C q hq _ => ?_) (fun _ _ _ => rfl) (by decide) (.inr rfl) (by rfl) fun s₉ g₉ S₉ => ?_
  · refine ex_callB (p := sumP (signedF wl) q) (ps := [.list (PI (((rInts 0 1 8).filter (hasSide q)).map (atI (signedF wl))))]) (ex_blt gl_sum bb_sum rfl) (exs_cons ?_ exs_nil) (fn_sum hh)
    refine Ex.eq (ex_comp PV.int (hasSide q) (atP (signedF wl)) (xs := rInts 0 1 8) (ex_callT (ex_blt gl_range bb_range rfl) (exs_cons ex_int exs_nil) fn_range1) (itr_range (n := 8) hh rfl rfl) (fun C' r hr => tf_one (tr_cmp cm_eq_int (ex_bin bi_and (ex_name (by walk_at "mem")) (ex_name (by walk_at "mem"))) (ex_name (by walk_at "mem")))) (fun C' r hr _ => ?_) (fun _ _ _ => rfl) (by decide) (.inl rfl)) (by unfold PI; rw [List.map_map]; rfl)
    obtain ⟨r0, r8⟩ := rInts_mem hr
    exact ex_sub (p := .list (PI (signedF wl))) (l := PI (signedF wl)) (i := r) (ex_name (by walk_at "mem")) rfl (ex_name (by walk_at "mem")) r0 (by omega) (pi_get (by omega))
  rw [filter_all] at S₉
  have es : ([0, 1, 2, 4] : List Int).map (sumP (signedF wl)) = PI (sumsF (signedF wl)) := rfl
  rw [es] at S₉
  refine st_if (c := !decide (sumsF (signedF wl) = rhsF kept)) S₉ (tr_cmp (cm_ne_ints (p := .list (PI (sumsF (signedF wl)))) (q := .list (PI (rhsF kept))) rfl rfl hu) (ex_name (by walk_at "mem")) ?_) (fun hc => by rw [hO.hsum] at hc; simp at hc) fun hc sa ga Sa => st_nil ?_
  · refine Ex.eq (ex_bin (bi_addL (p := .list [.int 1]) (q := .list (([1, 2, 4] : List Int).map (negP kept))) rfl rfl (by simp)) (ex_list (exs_cons ex_int exs_nil)) (ex_compM PV.int (negP kept) (xs := ([1, 2, 4] : List Int)) (ex_list (exs_cons ex_int (exs_cons ex_int (exs_cons ex_int exs_nil))) (by decide)) (itr_list hh rfl) (fun C q hq => ?_) (fun _ _ => rfl) (by decide) (.inl rfl))) rfl
    refine ex_if (c := onSide kept q) (tr_val (ex_bin bi_and (ex_name (by walk_at "mem")) (ex_name (by walk_at "mem"))) ty_int) (fun hc => ?_) fun hc => ?_
    · exact Ex.eq (ex_neg ex_int) (by unfold negP negSide; rw [if_pos hc])
    · exact Ex.eq ex_int (by unfold negP negSide; rw [hc, if_neg (by decide)])
  show wpAny _ _ _ _ _ _
  have at_ : ∀ {V' : Vars} {env' : Env} {np pos kp : Pos} {kk : Nat} (i : Nat), i < 8 → (Str.ofString "whole", .list (PI wl)) ∈ V' → Ex w A env' V' (.Subscript (.Name (Str.ofString "whole") np) (.Constant (.int (i : Int)) kk kp) pos) (.int (wl.getD i 0)) := fun i hi hm =>
    ex_sub (p := .list (PI wl)) (l := PI wl) (i := (i : Int)) (ex_name hm) rfl ex_int (by omega) (by omega) (by rw [Int.toNat_natCast]; exact pi_get (by omega))
  refine st_assign Sa (p := .list (PI (dueF wl))) (ex_list (exs_cons (ex_bin bi_add (ex_bin bi_add (at_ 1 (by decide) (by walk_at "mem")) (at_ 2 (by decide) (by walk_at "mem"))) (at_ 4 (by decide) (by walk_at "mem"))) (exs_cons (ex_bin (bi_mul (mul_two_l _)) ex_int (ex_bin bi_add (ex_bin bi_add (at_ 3 (by decide) (by walk_at "mem")) (at_ 5 (by decide) (by walk_at "mem"))) (at_ 6 (by decide) (by walk_at "mem")))) (exs_cons (ex_bin (bi_mul (mul_four_l _)) ex_int (at_ 7 (by decide) (by walk_at "mem"))) exs_nil))) (by show 3 ≤ 1000; decide)) rfl (by rfl) fun sb gb Sb => ?_
  refine st_return (p := .bool true) Sb (Ex.eq (ex_cmp (cm_eq_ints (p := .list (PI (pairsF (farF (rowsF T ms kept)) (rowsF T ms kept).length))) (q := .list (PI ([0] ++ dueF wl))) rfl rfl hu) (ex_callF (ex_glob gl_law_pairs (fun g => .val _) rfl) (exs_cons (ex_name (p := .list (PI ms)) (by walk_at "mem")) (exs_cons (ex_name (p := .list (PS T)) (by walk_at "mem")) (exs_cons (ex_name (p := .int kept) (by walk_at "mem")) exs_nil))) (fn_pairs (k := k) hA ms T kept hO.hT Tl hO.hm hO.hr0 hO.hn hO.hp hO.ht1 hO.ht2 hO.hsp hO.hlev hO.hlev5 hO.hfar) (by rfl) rfl) (Ex.eq (ex_bin (bi_addL (p := .list [.int 0]) (q := .list (PI (dueF wl))) rfl rfl (by rw [pi_len]; show 1 + 3 ≤ 1000000; decide)) (ex_list (exs_cons ex_int exs_nil)) (ex_name (by walk_at "mem"))) rfl)) (by rw [hO.hpair]; simp)) rfl
end
end Mine
end
noncomputable section
open PySem PySem.W PySem.Calls PyProof.Rows
namespace Mine
/-! the texts (written by gentext.py) -/
def wd0 : Str := ⟨#[79, 80, 84, 73, 77, 73, 90, 69, 68]⟩
def wd1 : Str := ⟨#[78, 69, 87, 76, 79, 67, 65, 76, 83]⟩
def wd2 : Str := ⟨#[86, 65, 82, 65, 82, 71, 83]⟩
def wd3 : Str := ⟨#[86, 65, 82, 75, 69, 89, 87, 79, 82, 68, 83]⟩
def wd4 : Str := ⟨#[78, 69, 83, 84, 69, 68]⟩
def wd5 : Str := ⟨#[71, 69, 78, 69, 82, 65, 84, 79, 82]⟩
def wd6 : Str := ⟨#[78, 79, 70, 82, 69, 69]⟩
def wd7 : Str := ⟨#[67, 79, 82, 79, 85, 84, 73, 78, 69]⟩
def wd8 : Str := ⟨#[73, 84, 69, 82, 65, 66, 76, 69, 95, 67, 79, 82, 79, 85, 84, 73, 78, 69]⟩
def wd9 : Str := ⟨#[65, 83, 89, 78, 67, 95, 71, 69, 78, 69, 82, 65, 84, 79, 82]⟩
def wdz : Str := ⟨#[48, 120, 48]⟩
def sepC : Str := ⟨#[44, 32]⟩
theorem sepC_is : Str.ofString ", " = sepC := by decide +kernel
def tx0 : Str := ⟨#[48, 120, 48]⟩
def tl0 : Str := ⟨#[48, 120, 48]⟩
def tx1 : Str := ⟨#[79, 80, 84, 73, 77, 73, 90, 69, 68]⟩
def tl1 : Str := ⟨#[111, 112, 116, 105, 109, 105, 122, 101, 100]⟩
def tx2 : Str := ⟨#[78, 69, 87, 76, 79, 67, 65, 76, 83]⟩
def tl2 : Str := ⟨#[110, 101, 119, 108, 111, 99, 97, 108, 115]⟩
def tx3 : Str := ⟨#[79, 80, 84, 73, 77, 73, 90, 69, 68, 44, 32, 78, 69, 87, 76, 79, 67, 65, 76, 83]⟩
def tl3 : Str := ⟨#[111, 112, 116, 105, 109, 105, 122, 101, 100, 44, 32, 110, 101, 119, 108, 111, 99, 97, 108, 115]⟩
def tx4 : Str := ⟨#[86, 65, 82, 65, 82, 71, 83]⟩
def tl4 : Str := ⟨#[118, 97, 114, 97, 114, 103, 115]⟩
def tx5 : Str := ⟨#[79, 80, 84, 73, 77, 73, 90, 69, 68, 44, 32, 86, 65, 82, 65, 82, 71, 83]⟩
def tl5 : Str := ⟨#[111, 112, 116, 105, 109, 105, 122, 101, 100, 44, 32, 118, 97, 114, 97, 114, 103, 115]⟩
def tx6 : Str := ⟨#[78, 69, 87, 76, 79, 67, 65, 76, 83, 44, 32, 86, 65, 82, 65, 82, 71, 83]⟩
def tl6 : Str := ⟨#[110, 101, 119, 108, 111, 99, 97, 108, 115, 44, 32, 118, 97, 114, 97, 114, 103, 115]⟩
def tx7 : Str := ⟨#[79, 80, 84, 73, 77, 73, 90, 69, 68, 44, 32, 78, 69, 87, 76, 79, 67, 65, 76, 83, 44, 32, 86, 65, 82, 65, 82, 71, 83]⟩
def tl7 : Str := ⟨#[111, 112, 116, 105, 109, 105, 122, 101, 100, 44, 32, 110, 101, 119, 108, 111, 99, 97, 108, 115, 44, 32, 118, 97, 114, 97, 114, 103, 115]⟩
def tx8 : Str := ⟨#[86, 65, 82, 75, 69, 89, 87, 79, 82, 68, 83]⟩
def tl8 : Str := ⟨#[118, 97, 114, 107, 101, 121, 119, 111, 114, 100, 115]⟩
def tx10 : Str := ⟨#[78, 69, 87, 76, 79, 67, 65, 76, 83, 44, 32, 86, 65, 82, 75, 69, 89, 87, 79, 82, 68, 83]⟩
def tl10 : Str := ⟨#[110, 101, 119, 108, 111, 99, 97, 108, 115, 44, 32, 118, 97, 114, 107, 101, 121, 119, 111, 114, 100, 115]⟩
def tx12 : Str := ⟨#[86, 65, 82, 65, 82, 71, 83, 44, 32, 86, 65, 82, 75, 69, 89, 87, 79, 82, 68, 83]⟩
def tl12 : Str := ⟨#[118, 97, 114, 97, 114, 103, 115, 44, 32, 118, 97, 114, 107, 101, 121, 119, 111, 114, 100, 115]⟩
def tx14 : Str := ⟨#[78, 69, 87, 76, 79, 67, 65, 76, 83, 44, 32, 86, 65, 82, 65, 82, 71, 83, 44, 32, 86, 65, 82, 75, 69, 89, 87, 79, 82, 68, 83]⟩
def tl14 : Str := ⟨#[110, 101, 119, 108, 111, 99, 97, 108, 115, 44, 32, 118, 97, 114, 97, 114, 103, 115, 44, 32, 118, 97, 114, 107, 101, 121, 119, 111, 114, 100, 115]⟩
def tx16 : Str := ⟨#[78, 69, 83, 84, 69, 68]⟩
def tl16 : Str := ⟨#[110, 101, 115, 116, 101, 100]⟩
def tx20 : Str := ⟨#[86, 65, 82, 65, 82, 71, 83, 44, 32, 78, 69, 83, 84, 69, 68]⟩
def tl20 : Str := ⟨#[118, 97, 114, 97, 114, 103, 115, 44, 32, 110, 101, 115, 116, 101, 100]⟩
def tx24 : Str := ⟨#[86, 65, 82, 75, 69, 89, 87, 79, 82, 68, 83, 44, 32, 78, 69, 83, 84, 69, 68]⟩
def tl24 : Str := ⟨#[118, 97, 114, 107, 101, 121, 119, 111, 114, 100, 115, 44, 32, 110, 101, 115, 116, 101, 100]⟩
def tx28 : Str := ⟨#[86, 65, 82, 65, 82, 71, 83, 44, 32, 86, 65, 82, 75, 69, 89, 87, 79, 82, 68, 83, 44, 32, 78, 69, 83, 84, 69, 68]⟩
def tl28 : Str := ⟨#[118, 97, 114, 97, 114, 103, 115, 44, 32, 118, 97, 114, 107, 101, 121, 119, 111, 114, 100, 115, 44, 32, 110, 101, 115, 116, 101, 100]⟩
def tx32 : Str := ⟨#[71, 69, 78, 69, 82, 65, 84, 79, 82]⟩
def tl32 : Str := ⟨#[103, 101, 110, 101, 114, 97, 116, 111, 114]⟩
def tx40 : Str := ⟨#[86, 65, 82, 75, 69, 89, 87, 79, 82, 68, 83, 44, 32, 71, 69, 78, 69, 82, 65, 84, 79, 82]⟩
def tl40 : Str := ⟨#[118, 97, 114, 107, 101, 121, 119, 111, 114, 100, 115, 44, 32, 103, 101, 110, 101, 114, 97, 116, 111, 114]⟩
def tx48 : Str := ⟨#[78, 69, 83, 84, 69, 68, 44, 32, 71, 69, 78, 69, 82, 65, 84, 79, 82]⟩
def tl48 : Str := ⟨#[110, 101, 115, 116, 101, 100, 44, 32, 103, 101, 110, 101, 114, 97, 116, 111, 114]⟩
def tx56 : Str := ⟨#[86, 65, 82, 75, 69, 89, 87, 79, 82, 68, 83, 44, 32, 78, 69, 83, 84, 69, 68, 44, 32, 71, 69, 78, 69, 82, 65, 84, 79, 82]⟩
def tl56 : Str := ⟨#[118, 97, 114, 107, 101, 121, 119, 111, 114, 100, 115, 44, 32, 110, 101, 115, 116, 101, 100, 44, 32, 103, 101, 110, 101, 114, 97, 116, 111, 114]⟩
def tx64 : Str := ⟨#[78, 79, 70, 82, 69, 69]⟩
def tl64 : Str := ⟨#[110, 111, 102, 114, 101, 101]⟩
def tx80 : Str := ⟨#[78, 69, 83, 84, 69, 68, 44, 32, 78, 79, 70, 82, 69, 69]⟩
def tl80 : Str := ⟨#[110, 101, 115, 116, 101, 100, 44, 32, 110, 111, 102, 114, 101, 101]⟩
def tx96 : Str := ⟨#[71, 69, 78, 69, 82, 65, 84, 79, 82, 44, 32, 78, 79, 70, 82, 69, 69]⟩
def tl96 : Str := ⟨#[103, 101, 110, 101, 114, 97, 116, 111, 114, 44, 32, 110, 111, 102, 114, 101, 101]⟩
def tx112 : Str := ⟨#[78, 69, 83, 84, 69, 68, 44, 32, 71, 69, 78, 69, 82, 65, 84, 79, 82, 44, 32, 78, 79, 70, 82, 69, 69]⟩
def tl112 : Str := ⟨#[110, 101, 115, 116, 101, 100, 44, 32, 103, 101, 110, 101, 114, 97, 116, 111, 114, 44, 32, 110, 111, 102, 114, 101, 101]⟩
def tx128 : Str := ⟨#[67, 79, 82, 79, 85, 84, 73, 78, 69]⟩
def tl128 : Str := ⟨#[99, 111, 114, 111, 117, 116, 105, 110, 101]⟩
def tx160 : Str := ⟨#[71, 69, 78, 69, 82, 65, 84, 79, 82, 44, 32, 67, 79, 82, 79, 85, 84, 73, 78, 69]⟩
def tl160 : Str := ⟨#[103, 101, 110, 101, 114, 97, 116, 111, 114, 44, 32, 99, 111, 114, 111, 117, 116, 105, 110, 101]⟩
def tx192 : Str := ⟨#[78, 79, 70, 82, 69, 69, 44, 32, 67, 79, 82, 79, 85, 84, 73, 78, 69]⟩
def tl192 : Str := ⟨#[110, 111, 102, 114, 101, 101, 44, 32, 99, 111, 114, 111, 117, 116, 105, 110, 101]⟩
def tx224 : Str := ⟨#[71, 69, 78, 69, 82, 65, 84, 79, 82, 44, 32, 78, 79, 70, 82, 69, 69, 44, 32, 67, 79, 82, 79, 85, 84, 73, 78, 69]⟩
def tl224 : Str := ⟨#[103, 101, 110, 101, 114, 97, 116, 111, 114, 44, 32, 110, 111, 102, 114, 101, 101, 44, 32, 99, 111, 114, 111, 117, 116, 105, 110, 101]⟩
def tx256 : Str := ⟨#[73, 84, 69, 82, 65, 66, 76, 69, 95, 67, 79, 82, 79, 85, 84, 73, 78, 69]⟩
def tl256 : Str := ⟨#[105, 116, 101, 114, 97, 98, 108, 101, 95, 99, 111, 114, 111, 117, 116, 105, 110, 101]⟩
def tx320 : Str := ⟨#[78, 79, 70, 82, 69, 69, 44, 32, 73, 84, 69, 82, 65, 66, 76, 69, 95, 67, 79, 82, 79, 85, 84, 73, 78, 69]⟩
def tl320 : Str := ⟨#[110, 111, 102, 114, 101, 101, 44, 32, 105, 116, 101, 114, 97, 98, 108, 101, 95, 99, 111, 114, 111, 117, 116, 105, 110, 101]⟩
def tx384 : Str := ⟨#[67, 79, 82, 79, 85, 84, 73, 78, 69, 44, 32, 73, 84, 69, 82, 65, 66, 76, 69, 95, 67, 79, 82, 79, 85, 84, 73, 78, 69]⟩
def tl384 : Str := ⟨#[99, 111, 114, 111, 117, 116, 105, 110, 101, 44, 32, 105, 116, 101, 114, 97, 98, 108, 101, 95, 99, 111, 114, 111, 117, 116, 105, 110, 101]⟩
def tx448 : Str := ⟨#[78, 79, 70, 82, 69, 69, 44, 32, 67, 79, 82, 79, 85, 84, 73, 78, 69, 44, 32, 73, 84, 69, 82, 65, 66, 76, 69, 95, 67, 79, 82, 79, 85, 84, 73, 78, 69]⟩
def tl448 : Str := ⟨#[110, 111, 102, 114, 101, 101, 44, 32, 99, 111, 114, 111, 117, 116, 105, 110, 101, 44, 32, 105, 116, 101, 114, 97, 98, 108, 101, 95, 99, 111, 114, 111, 117, 116, 105, 110, 101]⟩
def tx512 : Str := ⟨#[65, 83, 89, 78, 67, 95, 71, 69, 78, 69, 82, 65, 84, 79, 82]⟩
def tl512 : Str := ⟨#[97, 115, 121, 110, 99, 95, 103, 101, 110, 101, 114, 97, 116, 111, 114]⟩
def tx640 : Str := ⟨#[67, 79, 82, 79, 85, 84, 73, 78, 69, 44, 32, 65, 83, 89, 78, 67, 95, 71, 69, 78, 69, 82, 65, 84, 79, 82]⟩
def tl640 : Str := ⟨#[99, 111, 114, 111, 117, 116, 105, 110, 101, 44, 32, 97, 115, 121, 110, 99, 95, 103, 101, 110, 101, 114, 97, 116, 111, 114]⟩
def tx768 : Str := ⟨#[73, 84, 69, 82, 65, 66, 76, 69, 95, 67, 79, 82, 79, 85, 84, 73, 78, 69, 44, 32, 65, 83, 89, 78, 67, 95, 71, 69, 78, 69, 82, 65, 84, 79, 82]⟩
def tl768 : Str := ⟨#[105, 116, 101, 114, 97, 98, 108, 101, 95, 99, 111, 114, 111, 117, 116, 105, 110, 101, 44, 32, 97, 115, 121, 110, 99, 95, 103, 101, 110, 101, 114, 97, 116, 111, 114]⟩
def tx896 : Str := ⟨#[67, 79, 82, 79, 85, 84, 73, 78, 69, 44, 32, 73, 84, 69, 82, 65, 66, 76, 69, 95, 67, 79, 82, 79, 85, 84, 73, 78, 69, 44, 32, 65, 83, 89, 78, 67, 95, 71, 69, 78, 69, 82, 65, 84, 79, 82]⟩
def tl896 : Str := ⟨#[99, 111, 114, 111, 117, 116, 105, 110, 101, 44, 32, 105, 116, 101, 114, 97, 98, 108, 101, 95, 99, 111, 114, 111, 117, 116, 105, 110, 101, 44, 32, 97, 115, 121, 110, 99, 95, 103, 101, 110, 101, 114, 97, 116, 111, 114]⟩
structure TxtOk (n : Int) (ws : List Str) (x y : Str) : Prop where
  pf : pf n = x
  hex : (hexS (pfAt n 32).fl).length ≤ 100
  sum : ((pfNames n).map (·.length)).sum + (pfNames n).length ≤ 1000000
  low : Txt.lower x = y
  low2 : Txt.lower y = y
  spl : splitC x = ws
  ok : okText x = true
theorem TxtOk.of {n : Int} {ws : List Str} {x y : Str} (h1 : pfNames n = ws) (h2 : (pfAt n 32).fl = 0) (h3 : Txt.join sepC ws = x) (h4 : Txt.lower x = y) (h5 : Txt.lower y = y) (h6 : Txt.split x sepC = ws)
    (h7 : srFail codeN x = true) (h8 : srFail codeV x = true) (h9 : srFail codeN y = true) (ha : decide (x.cps.size ≤ 900) = true) (hb : decide (y.cps.size ≤ 900) = true) (hc : PyData.strOk x = true) (hd : decide ((ws.map (·.length)).sum + ws.length ≤ 1000) = true) : TxtOk n ws x y where
  pf := by unfold Mine.pf; rw [h1, sepC_is, h3]
  hex := by rw [h2]; decide +kernel
  sum := by rw [h1]; have := of_decide_eq_true hd; omega
  low := h4
  low2 := h5
  spl := by unfold splitC; rw [sepC_is, h6]
  ok := by unfold okText; rw [h4, h5, h7, h8, h9, ha, hb, hc]; simp
theorem ok0 : TxtOk 0 [wdz] tx0 tl0 := .of (by decide +kernel) (by decide +kernel) (by decide +kernel) (by decide +kernel) (by decide +kernel) (by decide +kernel) (by decide +kernel) (by decide +kernel) (by decide +kernel) (by decide +kernel) (by decide +kernel) (by decide +kernel) (by decide +kernel)
theorem ok1 : TxtOk 1 [wd0] tx1 tl1 := .of (by decide +kernel) (by decide +kernel) (by decide +kernel) (by decide +kernel) (by decide +kernel) (by decide +kernel) (by decide +kernel) (by decide +kernel) (by decide +kernel) (by decide +kernel) (by decide +kernel) (by decide +kernel) (by decide +kernel)
theorem ok2 : TxtOk 2 [wd1] tx2 tl2 := .of (by decide +kernel) (by decide +kernel) (by decide +kernel) (by decide +kernel) (by decide +kernel) (by decide +kernel) (by decide +kernel) (by decide +kernel) (by decide +kernel) (by decide +kernel) (by decide +kernel) (by decide +kernel) (by decide +kernel)
theorem ok3 : TxtOk 3 [wd0, wd1] tx3 tl3 := .of (by decide +kernel) (by decide +kernel) (by decide +kernel) (by decide +kernel) (by decide +kernel) (by decide +kernel) (by decide +kernel) (by decide +kernel) (by decide +kernel) (by decide +kernel) (by decide +kernel) (by decide +kernel) (by decide +kernel)
theorem ok4 : TxtOk 4 [wd2] tx4 tl4 := .of (by decide +kernel) (by decide +kernel) (by decide +kernel) (by decide +kernel) (by decide +kernel) (by decide +kernel) (by decide +kernel) (by decide +kernel) (by decide +kernel) (by decide +kernel) (by decide +kernel) (by decide +kernel) (by decide +kernel)
theorem ok5 : TxtOk 5 [wd0, wd2] tx5 tl5 := .of (by decide +kernel) (by decide +kernel) (by decide +kernel) (by decide +kernel) (by decide +kernel) (by decide +kernel) (by decide +kernel) (by decide +kernel) (by decide +kernel) (by decide +kernel) (by decide +kernel) (by decide +kernel) (by decide +kernel)
theorem ok6 : TxtOk 6 [wd1, wd2] tx6 tl6 := .of (by decide +kernel) (by decide +kernel) (by decide +kernel) (by decide +kernel) (by decide +kernel) (by decide +kernel) (by decide +kernel) (by decide +kernel) (by decide +kernel) (by decide +kernel) (by decide +kernel) (by decide +kernel) (by decide +kernel)
theorem ok7 : TxtOk 7 [wd0, wd1, wd2] tx7 tl7 := .of (by decide +kernel) (by decide +kernel) (by decide +kernel) (by decide +kernel) (by decide +kernel) (by decide +kernel) (by decide +kernel) (by decide +kernel) (by decide +kernel) (by decide +kernel) (by decide +kernel) (by decide +kernel) (by decide +kernel)
theorem ok8 : TxtOk 8 [wd3] tx8 tl8 := .of (by decide +kernel) (by decide +kernel) (by decide +kernel) (by decide +kernel) (by decide +kernel) (by decide +kernel) (by decide +kernel) (by decide +kernel) (by decide +kernel) (by decide +kernel) (by decide +kernel) (by decide +kernel) (by decide +kernel)
theorem ok10 : TxtOk 10 [wd1, wd3] tx10 tl10 := .of (by decide +kernel) (by decide +kernel) (by decide +kernel) (by decide +kernel) (by decide +kernel) (by decide +kernel) (by decide +kernel) (by decide +kernel) (by decide +kernel) (by decide +kernel) (by decide +kernel) (by decide +kernel) (by decide +kernel)
theorem ok12 : TxtOk 12 [wd2, wd3] tx12 tl12 := .of (by decide +kernel) (by decide +kernel) (by decide +kernel) (by decide +kernel) (by decide +kernel) (by decide +kernel) (by decide +kernel) (by decide +kernel) (by decide +kernel) (by decide +kernel) (by decide +kernel) (by decide +kernel) (by decide +kernel)
theorem ok14 : TxtOk 14 [wd1, wd2, wd3] tx14 tl14 := .of (by decide +kernel) (by decide +kernel) (by decide +kernel) (by decide +kernel) (by decide +kernel) (by decide +kernel) (by decide +kernel) (by decide +kernel) (by decide +kernel) (by decide +kernel) (by decide +kernel) (by decide +kernel) (by decide +kernel)
theorem ok16 : TxtOk 16 [wd4] tx16 tl16 := .of (by decide +kernel) (by decide +kernel) (by decide +kernel) (by decide +kernel) (by decide +kernel) (by decide +kernel) (by decide +kernel) (by decide +kernel) (by decide +kernel) (by decide +kernel) (by decide +kernel) (by decide +kernel) (by decide +kernel)
theorem ok20 : TxtOk 20 [wd2, wd4] tx20 tl20 := .of (by decide +kernel) (by decide +kernel) (by decide +kernel) (by decide +kernel) (by decide +kernel) (by decide +kernel) (by decide +kernel) (by decide +kernel) (by decide +kernel) (by decide +kernel) (by decide +kernel) (by decide +kernel) (by decide +kernel)
theorem ok24 : TxtOk 24 [wd3, wd4] tx24 tl24 := .of (by decide +kernel) (by decide +kernel) (by decide +kernel) (by decide +kernel) (by decide +kernel) (by decide +kernel) (by decide +kernel) (by decide +kernel) (by decide +kernel) (by decide +kernel) (by decide +kernel) (by decide +kernel) (by decide +kernel)
theorem ok28 : TxtOk 28 [wd2, wd3, wd4] tx28 tl28 := .of (by decide +kernel) (by decide +kernel) (by decide +kernel) (by decide +kernel) (by decide +kernel) (by decide +kernel) (by decide +kernel) (by decide +kernel) (by decide +kernel) (by decide +kernel) (by decide +kernel) (by decide +kernel) (by decide +kernel)
theorem ok32 : TxtOk 32 [wd5] tx32 tl32 := .of (by decide +kernel) (by decide +kernel) (by decide +kernel) (by decide +kernel) (by decide +kernel) (by decide +kernel) (by decide +kernel) (by decide +kernel) (by decide +kernel) (by decide +kernel) (by decide +kernel) (by decide +kernel) (by decide +kernel)
theorem ok40 : TxtOk 40 [wd3, wd5] tx40 tl40 := .of (by decide +kernel) (by decide +kernel) (by decide +kernel) (by decide +kernel) (by decide +kernel) (by decide +kernel) (by decide +kernel) (by decide +kernel) (by decide +kernel) (by decide +kernel) (by decide +kernel) (by decide +kernel) (by decide +kernel)
theorem ok48 : TxtOk 48 [wd4, wd5] tx48 tl48 := .of (by decide +kernel) (by decide +kernel) (by decide +kernel) (by decide +kernel) (by decide +kernel) (by decide +kernel) (by decide +kernel) (by decide +kernel) (by decide +kernel) (by decide +kernel) (by decide +kernel) (by decide +kernel) (by decide +kernel)
theorem ok56 : TxtOk 56 [wd3, wd4, wd5] tx56 tl56 := .of (by decide +kernel) (by decide +kernel) (by decide +kernel) (by decide +kernel) (by decide +kernel) (by decide +kernel) (by decide +kernel) (by decide +kernel) (by decide +kernel) (by decide +kernel) (by decide +kernel) (by decide +kernel) (by decide +kernel)
theorem ok64 : TxtOk 64 [wd6] tx64 tl64 := .of (by decide +kernel) (by decide +kernel) (by decide +kernel) (by decide +kernel) (by decide +kernel) (by decide +kernel) (by decide +kernel) (by decide +kernel) (by decide +kernel) (by decide +kernel) (by decide +kernel) (by decide +kernel) (by decide +kernel)
theorem ok80 : TxtOk 80 [wd4, wd6] tx80 tl80 := .of (by decide +kernel) (by decide +kernel) (by decide +kernel) (by decide +kernel) (by decide +kernel) (by decide +kernel) (by decide +kernel) (by decide +kernel) (by decide +kernel) (by decide +kernel) (by decide +kernel) (by decide +kernel) (by decide +kernel)
theorem ok96 : TxtOk 96 [wd5, wd6] tx96 tl96 := .of (by decide +kernel) (by decide +kernel) (by decide +kernel) (by decide +kernel) (by decide +kernel) (by decide +kernel) (by decide +kernel) (by decide +kernel) (by decide +kernel) (by decide +kernel) (by decide +kernel) (by decide +kernel) (by decide +kernel)
theorem ok112 : TxtOk 112 [wd4, wd5, wd6] tx112 tl112 := .of (by decide +kernel) (by decide +kernel) (by decide +kernel) (by decide +kernel) (by decide +kernel) (by decide +kernel) (by decide +kernel) (by decide +kernel) (by decide +kernel) (by decide +kernel) (by decide +kernel) (by decide +kernel) (by decide +kernel)
theorem ok128 : TxtOk 128 [wd7] tx128 tl128 := .of (by decide +kernel) (by decide +kernel) (by decide +kernel) (by decide +kernel) (by decide +kernel) (by decide +kernel) (by decide +kernel) (by decide +kernel) (by decide +kernel) (by decide +kernel) (by decide +kernel) (by decide +kernel) (by decide +kernel)
theorem ok160 : TxtOk 160 [wd5, wd7] tx160 tl160 := .of (by decide +kernel) (by decide +kernel) (by decide +kernel) (by decide +kernel) (by decide +kernel) (by decide +kernel) (by decide +kernel) (by decide +kernel) (by decide +kernel) (by decide +kernel) (by decide +kernel) (by decide +kernel) (by decide +kernel)
theorem ok192 : TxtOk 192 [wd6, wd7] tx192 tl192 := .of (by decide +kernel) (by decide +kernel) (by decide +kernel) (by decide +kernel) (by decide +kernel) (by decide +kernel) (by decide +kernel) (by decide +kernel) (by decide +kernel) (by decide +kernel) (by decide +kernel) (by decide +kernel) (by decide +kernel)
theorem ok224 : TxtOk 224 [wd5, wd6, wd7] tx224 tl224 := .of (by decide +kernel) (by decide +kernel) (by decide +kernel) (by decide +kernel) (by decide +kernel) (by decide +kernel) (by decide +kernel) (by decide +kernel) (by decide +kernel) (by decide +kernel) (by decide +kernel) (by decide +kernel) (by decide +kernel)
theorem ok256 : TxtOk 256 [wd8] tx256 tl256 := .of (by decide +kernel) (by decide +kernel) (by decide +kernel) (by decide +kernel) (by decide +kernel) (by decide +kernel) (by decide +kernel) (by decide +kernel) (by decide +kernel) (by decide +kernel) (by decide +kernel) (by decide +kernel) (by decide +kernel)
theorem ok320 : TxtOk 320 [wd6, wd8] tx320 tl320 := .of (by decide +kernel) (by decide +kernel) (by decide +kernel) (by decide +kernel) (by decide +kernel) (by decide +kernel) (by decide +kernel) (by decide +kernel) (by decide +kernel) (by decide +kernel) (by decide +kernel) (by decide +kernel) (by decide +kernel)
theorem ok384 : TxtOk 384 [wd7, wd8] tx384 tl384 := .of (by decide +kernel) (by decide +kernel) (by decide +kernel) (by decide +kernel) (by decide +kernel) (by decide +kernel) (by decide +kernel) (by decide +kernel) (by decide +kernel) (by decide +kernel) (by decide +kernel) (by decide +kernel) (by decide +kernel)
theorem ok448 : TxtOk 448 [wd6, wd7, wd8] tx448 tl448 := .of (by decide +kernel) (by decide +kernel) (by decide +kernel) (by decide +kernel) (by decide +kernel) (by decide +kernel) (by decide +kernel) (by decide +kernel) (by decide +kernel) (by decide +kernel) (by decide +kernel) (by decide +kernel) (by decide +kernel)
theorem ok512 : TxtOk 512 [wd9] tx512 tl512 := .of (by decide +kernel) (by decide +kernel) (by decide +kernel) (by decide +kernel) (by decide +kernel) (by decide +kernel) (by decide +kernel) (by decide +kernel) (by decide +kernel) (by decide +kernel) (by decide +kernel) (by decide +kernel) (by decide +kernel)
theorem ok640 : TxtOk 640 [wd7, wd9] tx640 tl640 := .of (by decide +kernel) (by decide +kernel) (by decide +kernel) (by decide +kernel) (by decide +kernel) (by decide +kernel) (by decide +kernel) (by decide +kernel) (by decide +kernel) (by decide +kernel) (by decide +kernel) (by decide +kernel) (by decide +kernel)
theorem ok768 : TxtOk 768 [wd8, wd9] tx768 tl768 := .of (by decide +kernel) (by decide +kernel) (by decide +kernel) (by decide +kernel) (by decide +kernel) (by decide +kernel) (by decide +kernel) (by decide +kernel) (by decide +kernel) (by decide +kernel) (by decide +kernel) (by decide +kernel) (by decide +kernel)
theorem ok896 : TxtOk 896 [wd7, wd8, wd9] tx896 tl896 := .of (by decide +kernel) (by decide +kernel) (by decide +kernel) (by decide +kernel) (by decide +kernel) (by decide +kernel) (by decide +kernel) (by decide +kernel) (by decide +kernel) (by decide +kernel) (by decide +kernel) (by decide +kernel) (by decide +kernel)
def txs0 : List Str := [tx0, tx1, tx2, tx3, tx4, tx5, tx6, tx7]
def tls0 : List Str := [tl0, tl1, tl2, tl3, tl4, tl5, tl6, tl7]
def wds0 : List (List Str) := [[wdz], [wd0], [wd1], [wd0, wd1], [wd2], [wd0, wd2], [wd1, wd2], [wd0, wd1, wd2]]
def txs1 : List Str := [tx0, tx2, tx4, tx6, tx8, tx10, tx12, tx14]
def tls1 : List Str := [tl0, tl2, tl4, tl6, tl8, tl10, tl12, tl14]
def wds1 : List (List Str) := [[wdz], [wd1], [wd2], [wd1, wd2], [wd3], [wd1, wd3], [wd2, wd3], [wd1, wd2, wd3]]
def txs2 : List Str := [tx0, tx4, tx8, tx12, tx16, tx20, tx24, tx28]
def tls2 : List Str := [tl0, tl4, tl8, tl12, tl16, tl20, tl24, tl28]
def wds2 : List (List Str) := [[wdz], [wd2], [wd3], [wd2, wd3], [wd4], [wd2, wd4], [wd3, wd4], [wd2, wd3, wd4]]
def txs3 : List Str := [tx0, tx8, tx16, tx24, tx32, tx40, tx48, tx56]
def tls3 : List Str := [tl0, tl8, tl16, tl24, tl32, tl40, tl48, tl56]
def wds3 : List (List Str) := [[wdz], [wd3], [wd4], [wd3, wd4], [wd5], [wd3, wd5], [wd4, wd5], [wd3, wd4, wd5]]
def txs4 : List Str := [tx0, tx16, tx32, tx48, tx64, tx80, tx96, tx112]
def tls4 : List Str := [tl0, tl16, tl32, tl48, tl64, tl80, tl96, tl112]
def wds4 : List (List Str) := [[wdz], [wd4], [wd5], [wd4, wd5], [wd6], [wd4, wd6], [wd5, wd6], [wd4, wd5, wd6]]
def txs5 : List Str := [tx0, tx32, tx64, tx96, tx128, tx160, tx192, tx224]
def tls5 : List Str := [tl0, tl32, tl64, tl96, tl128, tl160, tl192, tl224]
def wds5 : List (List Str) := [[wdz], [wd5], [wd6], [wd5, wd6], [wd7], [wd5, wd7], [wd6, wd7], [wd5, wd6, wd7]]
def txs6 : List Str := [tx0, tx64, tx128, tx192, tx256, tx320, tx384, tx448]
def tls6 : List Str := [tl0, tl64, tl128, tl192, tl256, tl320, tl384, tl448]
def wds6 : List (List Str) := [[wdz], [wd6], [wd7], [wd6, wd7], [wd8], [wd6, wd8], [wd7, wd8], [wd6, wd7, wd8]]
def txs7 : List Str := [tx0, tx128, tx256, tx384, tx512, tx640, tx768, tx896]
def tls7 : List Str := [tl0, tl128, tl256, tl384, tl512, tl640, tl768, tl896]
def wds7 : List (List Str) := [[wdz], [wd7], [wd8], [wd7, wd8], [wd9], [wd7, wd9], [wd8, wd9], [wd7, wd8, wd9]]
theorem all8 {P : Int → Prop} (h0 : P 0) (h1 : P 1) (h2 : P 2) (h3 : P 3) (h4 : P 4) (h5 : P 5) (h6 : P 6) (h7 : P 7) (i : Int) (a : 0 ≤ i) (b : i < 8) : P i := by
  have : i = 0 ∨ i = 1 ∨ i = 2 ∨ i = 3 ∨ i = 4 ∨ i = 5 ∨ i = 6 ∨ i = 7 := by omega
  rcases this with rfl | rfl | rfl | rfl | rfl | rfl | rfl | rfl <;> assumption
def wAt (ws : List (List Str)) (i : Int) : List Str := ws.getD i.toNat []
def ShOk (sh : Int) (T TL : List Str) (WS : List (List Str)) (v : Int) : Prop := TxtOk (v * 2 ^ sh.toNat) (wAt WS v) (tAt T v) (tAt TL v)
theorem sh0 : ∀ v : Int, 0 ≤ v → v < 8 → ShOk 0 txs0 tls0 wds0 v := all8 ok0 ok1 ok2 ok3 ok4 ok5 ok6 ok7
theorem sh1 : ∀ v : Int, 0 ≤ v → v < 8 → ShOk 1 txs1 tls1 wds1 v := all8 ok0 ok2 ok4 ok6 ok8 ok10 ok12 ok14
theorem sh2 : ∀ v : Int, 0 ≤ v → v < 8 → ShOk 2 txs2 tls2 wds2 v := all8 ok0 ok4 ok8 ok12 ok16 ok20 ok24 ok28
theorem sh3 : ∀ v : Int, 0 ≤ v → v < 8 → ShOk 3 txs3 tls3 wds3 v := all8 ok0 ok8 ok16 ok24 ok32 ok40 ok48 ok56
theorem sh4 : ∀ v : Int, 0 ≤ v → v < 8 → ShOk 4 txs4 tls4 wds4 v := all8 ok0 ok16 ok32 ok48 ok64 ok80 ok96 ok112
theorem sh5 : ∀ v : Int, 0 ≤ v → v < 8 → ShOk 5 txs5 tls5 wds5 v := all8 ok0 ok32 ok64 ok96 ok128 ok160 ok192 ok224
theorem sh6 : ∀ v : Int, 0 ≤ v → v < 8 → ShOk 6 txs6 tls6 wds6 v := all8 ok0 ok64 ok128 ok192 ok256 ok320 ok384 ok448
theorem sh7 : ∀ v : Int, 0 ≤ v → v < 8 → ShOk 7 txs7 tls7 wds7 v := all8 ok0 ok128 ok256 ok384 ok512 ok640 ok768 ok896
end Mine
end
noncomputable section
open PySem PySem.W PySem.Calls PyProof.Rows
namespace Mine

/-! the distance over signs: any f that keeps apart and keeps the cost -/
def levTailS {α : Type} (cost : α → α → Int) (z : α) (a b : List α) (mc : Int) : Option Int := if ((b.length : Int) - a.length) * 2 > mc then none else dp (fun j i => cost (b.getD j z) (a.getD i z)) a.length b.length mc
def levCutS {α : Type} [DecidableEq α] (cost : α → α → Int) (z : α) (a b : List α) (mc : Int) : Option Int :=
  if a = [] ∨ b = [] then some (2 * ((a.length : Int) + b.length))
  else if a.length > 40 ∨ b.length > 40 then none
  else if b.length < a.length then levTailS cost z b a mc else levTailS cost z a b mc
def trimS {α : Type} [DecidableEq α] (a b c : List α) : List α := (c.drop (pref a b)).take ((c.drop (pref a b)).length - suf (a.drop (pref a b)) (b.drop (pref a b)))
def levS {α : Type} [DecidableEq α] (cost : α → α → Int) (z : α) (a b : List α) (mc : Int) : Option Int := if a = b then some 0 else levCutS cost z (trimS a b a) (trimS a b b) mc

theorem pref_map {α β : Type} [DecidableEq α] [DecidableEq β] {f : α → β} (hf : ∀ x y, f x = f y → x = y) : ∀ a b : List α, pref (a.map f) (b.map f) = pref a b
  | [], _ => by simp [pref]
  | _ :: _, [] => by simp [pref]
  | x :: xs, y :: ys => by
    show (if f x = f y then pref (xs.map f) (ys.map f) + 1 else 0) = (if x = y then pref xs ys + 1 else 0)
    rw [pref_map hf xs ys]
    by_cases e : x = y
    · rw [if_pos e, if_pos (congrArg f e)]
    · rw [if_neg e, if_neg fun h => e (hf _ _ h)]
theorem suf_map {α β : Type} [DecidableEq α] [DecidableEq β] {f : α → β} (hf : ∀ x y, f x = f y → x = y) (a b : List α) : suf (a.map f) (b.map f) = suf a b := by
  unfold suf; rw [← List.map_reverse, ← List.map_reverse, pref_map hf]
theorem innerAt_congr {c c' : Nat → Int} {row0 : List Int} {d0 : Int} : ∀ n, (∀ i, i < n → c i = c' i) → innerAt c row0 d0 n = innerAt c' row0 d0 n
  | 0, _ => rfl
  | n + 1, h => by
    show DS.mk _ _ _ _ = DS.mk _ _ _ _
    rw [innerAt_congr n fun i hi => h i (by omega), h n (by omega)]
theorem outerAt_congr {c c' : Nat → Nat → Int} {n : Nat} : ∀ m, (∀ j i, j < m → i < n → c j i = c' j i) → outerAt c n m = outerAt c' n m
  | 0, _ => rfl
  | m + 1, h => by
    show (_, _) = (_, _)
    rw [outerAt_congr m fun j i hj hi => h j i (by omega) hi, innerAt_congr n fun i hi => h m i (by omega) hi]
theorem dp_congr {c c' : Nat → Nat → Int} {n m : Nat} {mc : Int} (h : ∀ j i, j < m → i < n → c j i = c' j i) : dp c n m mc = dp c' n m mc := by
  have e : (List.range m).all (fun j => !decide (mc < minAt c n j)) = (List.range m).all (fun j => !decide (mc < minAt c' n j)) := by
    rw [Bool.eq_iff_iff, List.all_eq_true, List.all_eq_true]
    have k : ∀ j, j ∈ List.range m → minAt c n j = minAt c' n j := fun j hj => by
      have hj' := List.mem_range.mp hj
      unfold minAt
      rw [outerAt_congr j fun j' i h1 h2 => h j' i (by omega) h2, innerAt_congr n fun i hi => h j i hj' hi]
    exact ⟨fun a j hj => k j hj ▸ a j hj, fun a j hj => (k j hj).symm ▸ a j hj⟩
  unfold dp
  rw [e, outerAt_congr m h]
section
variable {α : Type} [DecidableEq α] {f : α → Str} {cost : α → α → Int} (z : α) (hf : ∀ x y, f x = f y → x = y) (hc : ∀ x y, subCost (f x) (f y) = cost x y)
include hc in
theorem levTail_map (a b : List α) (mc : Int) : levTail (a.map f) (b.map f) mc = levTailS cost z a b mc := by
  unfold levTail levTailS
  rw [List.length_map, List.length_map]
  have : dp (fun j i => subCost ((b.map f).getD j Str.empty) ((a.map f).getD i Str.empty)) a.length b.length mc = dp (fun j i => cost (b.getD j z) (a.getD i z)) a.length b.length mc := by
    refine dp_congr fun j i hj hi => ?_
    rw [List.getD_eq_getElem?_getD, List.getD_eq_getElem?_getD, List.getD_eq_getElem?_getD, List.getD_eq_getElem?_getD, List.getElem?_map, List.getElem?_map, List.getElem?_eq_getElem hj, List.getElem?_eq_getElem hi]
    exact hc _ _
  rw [this]
include hc in
theorem levCut_map (a b : List α) (mc : Int) : levCut (a.map f) (b.map f) mc = levCutS cost z a b mc := by
  unfold levCut levCutS
  rw [List.length_map, List.length_map, levTail_map z hc, levTail_map z hc]
  simp only [List.map_eq_nil_iff]
include hf hc in
theorem lev_map (a b : List α) (mc : Int) : lev (a.map f) (b.map f) mc = levS cost z a b mc := by
  have e : (a.map f = b.map f) ↔ a = b := ⟨fun h => (List.map_inj_right fun x y => hf x y).mp h, fun h => h ▸ rfl⟩
  have t : ∀ c : List α, (((c.map f).drop (pref a b)).take (((c.map f).drop (pref a b)).length - suf ((a.map f).drop (pref a b)) ((b.map f).drop (pref a b)))) = (trimS a b c).map f := fun c => by
    unfold trimS
    rw [← List.map_drop, ← List.map_drop, ← List.map_drop, List.length_map, suf_map hf, List.map_take]
  unfold lev levS trimA trimB
  rw [pref_map hf, t, t, levCut_map z hc]
  by_cases h : a = b
  · rw [if_pos h, if_pos (e.mpr h)]
  · rw [if_neg h, if_neg fun k => h (e.mp k)]
end
end Mine
end
noncomputable section
open PySem PySem.W PySem.Calls PyProof.Rows
namespace Mine
/-! the families, in numbers alone -/
def sidesF (kept : Int) : List Int := ([1, 2, 4] : List Int).filter (onSide kept)
def ham (kept u v : Int) : Int := (((sidesF kept).filter fun s => onSide u s != onSide v s).length : Int)
def fullN (ms : List Int) (r sz v : Int) : Bool := ((ms.filter fun u => Builtin.bitAnd u r == v).length : Int) == 2 ^ sz.toNat
def wholeN (ms : List Int) (kept part : Int) : Int := (((cornersF (restF kept part)).filter (fullN ms (restF kept part) (sizeAt part))).length : Int)
def wholeLN (ms : List Int) (kept : Int) : List Int := (ms.length : Int) :: (rInts 1 1 7).map (wholeN ms kept)
def farN (ms : List Int) (kept : Int) : List (List Int) := ms.map fun u => ms.map (ham kept u)
def goodAt (ms : List Int) (kept : Int) : Bool := decide (sumsF (signedF (wholeLN ms kept)) = rhsF kept) && decide (pairsF (farN ms kept) ms.length = [0] ++ dueF (wholeLN ms kept))

/-! every family: first the list itself, then the flags that count, then the sums -/
noncomputable def held {β : Type} : List Int → (List Int → β) → β
  | [], k => k []
  | x :: l, k => held l fun r => k (x :: r)
theorem held_is {β : Type} : ∀ (l : List Int) (k : List Int → β), held l k = k l
  | [], _ => rfl
  | x :: l, k => held_is l fun r => k (x :: r)
def ask (ms : List Int) : Bool := ms.isEmpty || !decide (membersF ms = ms) || (rInts 0 1 8).any fun k => decide (keptF ms = k) && goodAt ms k
noncomputable def sel : List Int → List Bool → List Int
  | x :: l, b :: r => if b = true then x :: sel l r else sel l r
  | _, _ => []
theorem sel_map (p : Int → Bool) : ∀ l : List Int, sel l (l.map p) = l.filter p
  | [] => rfl
  | x :: l => by
    show (if p x = true then x :: sel l (l.map p) else sel l (l.map p)) = _
    rw [sel_map p l, List.filter_cons]
def askB (b0 b1 b2 b3 b4 b5 b6 b7 : Bool) : Bool := held (sel [0, 1, 2, 3, 4, 5, 6, 7] [b0, b1, b2, b3, b4, b5, b6, b7]) ask
theorem fam0 : ∀ b0 b1 b2 b3 b4 : Bool, askB b0 b1 b2 b3 b4 false false false = true := by decide +kernel
theorem fam1 : ∀ b0 b1 b2 b3 b4 : Bool, askB b0 b1 b2 b3 b4 true false false = true := by decide +kernel
theorem fam2 : ∀ b0 b1 b2 b3 b4 : Bool, askB b0 b1 b2 b3 b4 false true false = true := by decide +kernel
theorem fam3 : ∀ b0 b1 b2 b3 b4 : Bool, askB b0 b1 b2 b3 b4 true true false = true := by decide +kernel
theorem fam4 : ∀ b0 b1 b2 b3 b4 : Bool, askB b0 b1 b2 b3 b4 false false true = true := by decide +kernel
theorem fam5 : ∀ b0 b1 b2 b3 b4 : Bool, askB b0 b1 b2 b3 b4 true false true = true := by decide +kernel
theorem fam6 : ∀ b0 b1 b2 b3 b4 : Bool, askB b0 b1 b2 b3 b4 false true true = true := by decide +kernel
theorem fam7 : ∀ b0 b1 b2 b3 b4 : Bool, askB b0 b1 b2 b3 b4 true true true = true := by decide +kernel
theorem ask_all (p : Int → Bool) : ask ((rInts 0 1 8).filter p) = true := by
  have e : (rInts 0 1 8).filter p = sel [0, 1, 2, 3, 4, 5, 6, 7] [p 0, p 1, p 2, p 3, p 4, p 5, p 6, p 7] := (sel_map p _).symm
  have k : ∀ b0 b1 b2 b3 b4 b5 b6 b7 : Bool, askB b0 b1 b2 b3 b4 b5 b6 b7 = true := fun b0 b1 b2 b3 b4 b5 b6 b7 => match b5, b6, b7 with
    | false, false, false => fam0 ..
    | true, false, false => fam1 ..
    | false, true, false => fam2 ..
    | true, true, false => fam3 ..
    | false, false, true => fam4 ..
    | true, false, true => fam5 ..
    | false, true, true => fam6 ..
    | true, true, true => fam7 ..
  rw [e]
  have := k (p 0) (p 1) (p 2) (p 3) (p 4) (p 5) (p 6) (p 7)
  unfold askB at this
  rwa [held_is] at this

/-! the members of a drawing are such a family -/
theorem memberB_iff {ds : List Int} {v : Int} : memberB ds v = true ↔ ∀ m ∈ ([3, 5, 6] : List Int), ∃ x ∈ ds, Builtin.bitAnd x m = Builtin.bitAnd v m := by
  unfold memberB
  rw [decide_eq_true_eq, List.filter_eq_nil_iff]
  refine ⟨fun h m hm => ?_, fun h m hm => ?_⟩
  · have := h m hm
    unfold seenIn at this
    simpa using this
  · obtain ⟨x, hx, e⟩ := h m hm
    unfold seenIn
    simp only [Bool.not_eq_true, Bool.not_eq_false', List.any_eq_true, List.mem_map]
    exact ⟨_, ⟨x, hx, rfl⟩, by simp [e]⟩
theorem mem8 {i : Int} (a : 0 ≤ i) (b : i < 8) : i ∈ rInts 0 1 8 := by
  unfold rInts
  exact List.mem_map.mpr ⟨i.toNat, List.mem_range.mpr (by omega), by omega⟩
theorem members_closed (ds : List Int) : membersF (membersF ds) = membersF ds := by
  show (rInts 0 1 8).filter (memberB (membersF ds)) = (rInts 0 1 8).filter (memberB ds)
  refine List.filter_congr fun v hv => ?_
  rw [Bool.eq_iff_iff]
  refine ⟨fun h => ?_, fun h => ?_⟩
  · refine memberB_iff.mpr fun m hm => ?_
    obtain ⟨x, hx, e⟩ := memberB_iff.mp h m hm
    obtain ⟨y, hy, e'⟩ := memberB_iff.mp (List.mem_filter.mp hx).2 m hm
    exact ⟨y, hy, e'.trans e⟩
  · exact memberB_iff.mpr fun m hm => ⟨v, List.mem_filter.mpr ⟨hv, h⟩, rfl⟩
theorem members_pos {ds : List Int} {x : Int} (hx : x ∈ ds) (a : 0 ≤ x) (b : x < 8) : 0 < (membersF ds).length := by
  have : x ∈ membersF ds := List.mem_filter.mpr ⟨mem8 a b, memberB_iff.mpr fun m hm => ⟨x, hx, rfl⟩⟩
  exact List.length_pos_of_mem this
theorem fam_good {ds : List Int} (h : 0 < (membersF ds).length) : (0 ≤ keptF (membersF ds) ∧ keptF (membersF ds) < 8) ∧ goodAt (membersF ds) (keptF (membersF ds)) = true := by
  have a := ask_all (memberB ds)
  rw [show (rInts 0 1 8).filter (memberB ds) = membersF ds from rfl] at a
  have c := members_closed ds
  generalize membersF ds = ms at a c h
  unfold ask at a
  rw [Bool.or_eq_true, Bool.or_eq_true, List.any_eq_true] at a
  rcases a with (a | a) | ⟨k, hk, a⟩
  · rw [List.isEmpty_iff] at a; subst a; exact absurd h (Nat.lt_irrefl _)
  · rw [decide_eq_true c] at a; cases a
  · obtain ⟨e, g⟩ := Bool.and_eq_true_iff.mp a
    have e' : keptF ms = k := of_decide_eq_true e
    rw [e']
    exact ⟨rInts_mem hk, g⟩
end Mine
end
noncomputable section
open PySem PySem.W PySem.Calls PyProof.Rows
namespace Mine
/-! rows as signs -/
abbrev Sg := Fin 7
def sgOf (v s : Int) : Sg := if s = 1 then (if onSide v s = true then 0 else 3) else if s = 2 then (if onSide v s = true then 1 else 4) else (if onSide v s = true then 2 else 5)
def sgRow (kept v : Int) : List Sg := (sidesF kept).map (sgOf v)
def costS (k l : Sg) : Int := if k = l then 0 else if k.val < 6 ∧ l.val < 6 ∧ k.val % 3 = l.val % 3 then 1 else 2
def sgF (T TL : List Str) (k : Sg) : Str := [tAt T 1, tAt T 2, tAt T 4, tAt TL 1, tAt TL 2, tAt TL 4, wdz].getD k.val Str.empty
def sgL (TL : List Str) (k : Sg) : Str := [tAt TL 1, tAt TL 2, tAt TL 4, tAt TL 1, tAt TL 2, tAt TL 4, wdz].getD k.val Str.empty
theorem zx_is : zx = wdz := by decide +kernel
theorem zx_low : Txt.lower zx = wdz := by rw [zx_is]; exact ok0.low
theorem zX_low : Txt.lower zX = wdz := by decide +kernel

def tellsB (T TL : List Str) : Bool := (rInts 0 1 8).all fun i => (rInts 0 1 8).all fun j => (tAt TL i == tAt TL j) == (i == j)
def innB (T : List Str) (WS : List (List Str)) : Bool := (rInts 0 1 8).all fun v => ([1, 2, 4] : List Int).all fun s => ((wAt WS v).any (· == tAt T s)) == onSide v s
def lensB (WS : List (List Str)) : Bool := (rInts 0 1 8).all fun v => decide ((wAt WS v).length ≤ 1000)
def injB (T TL : List Str) : Bool := decide (∀ k l : Sg, sgF T TL k = sgF T TL l → k = l)
def costB (T TL : List Str) : Bool := decide (∀ k l : Sg, (if (sgF T TL k == sgF T TL l) = true then 0 else if (sgL TL k == sgL TL l) = true then 1 else 2) = costS k l)

structure Tells (sh : Int) (T TL : List Str) (WS : List (List Str)) : Prop where
  is : textsF sh = T
  len : T.length = 8
  each : ∀ v : Int, 0 ≤ v → v < 8 → ShOk sh T TL WS v
  tell : tellsB T TL = true
  inn : innB T WS = true
  lens : lensB WS = true
  inj : injB T TL = true
  cost : costB T TL = true
  zero : tAt TL 0 = wdz

theorem list8 {α : Type} {l : List α} (h : l.length = 8) (d : α) : l = (rInts 0 1 8).map fun i => l.getD i.toNat d := by
  match l, h with
  | [a, b, c, d, e, f, g, i], _ => rfl
theorem texts_of {sh : Int} {T TL : List Str} {WS : List (List Str)} (hl : T.length = 8) (h : ∀ v : Int, 0 ≤ v → v < 8 → ShOk sh T TL WS v) : textsF sh = T := by
  rw [list8 hl Str.empty]
  unfold textsF
  refine List.map_congr_left fun v hv => ?_
  obtain ⟨a, b⟩ := rInts_mem hv
  exact (h v a b).pf
theorem Tells.of {sh : Int} {T TL : List Str} {WS : List (List Str)} (hl : T.length = 8) (h : ∀ v : Int, 0 ≤ v → v < 8 → ShOk sh T TL WS v) (h1 : tellsB T TL = true) (h2 : innB T WS = true) (h3 : lensB WS = true) (h4 : injB T TL = true) (h5 : costB T TL = true) (h6 : tAt TL 0 = wdz) : Tells sh T TL WS :=
  ⟨texts_of hl h, hl, h, h1, h2, h3, h4, h5, h6⟩
theorem tells0 : Tells 0 txs0 tls0 wds0 := .of rfl sh0 (by decide +kernel) (by decide +kernel) (by decide +kernel) (by decide +kernel) (by decide +kernel) (by decide +kernel)
theorem tells1 : Tells 1 txs1 tls1 wds1 := .of rfl sh1 (by decide +kernel) (by decide +kernel) (by decide +kernel) (by decide +kernel) (by decide +kernel) (by decide +kernel)
theorem tells2 : Tells 2 txs2 tls2 wds2 := .of rfl sh2 (by decide +kernel) (by decide +kernel) (by decide +kernel) (by decide +kernel) (by decide +kernel) (by decide +kernel)
theorem tells3 : Tells 3 txs3 tls3 wds3 := .of rfl sh3 (by decide +kernel) (by decide +kernel) (by decide +kernel) (by decide +kernel) (by decide +kernel) (by decide +kernel)
theorem tells4 : Tells 4 txs4 tls4 wds4 := .of rfl sh4 (by decide +kernel) (by decide +kernel) (by decide +kernel) (by decide +kernel) (by decide +kernel) (by decide +kernel)
theorem tells5 : Tells 5 txs5 tls5 wds5 := .of rfl sh5 (by decide +kernel) (by decide +kernel) (by decide +kernel) (by decide +kernel) (by decide +kernel) (by decide +kernel)
theorem tells6 : Tells 6 txs6 tls6 wds6 := .of rfl sh6 (by decide +kernel) (by decide +kernel) (by decide +kernel) (by decide +kernel) (by decide +kernel) (by decide +kernel)
theorem tells7 : Tells 7 txs7 tls7 wds7 := .of rfl sh7 (by decide +kernel) (by decide +kernel) (by decide +kernel) (by decide +kernel) (by decide +kernel) (by decide +kernel)
theorem tells_all (sh : Int) (a : 0 ≤ sh) (b : sh < 8) : ∃ T TL WS, Tells sh T TL WS :=
  all8 (P := fun sh => ∃ T TL WS, Tells sh T TL WS) ⟨_, _, _, tells0⟩ ⟨_, _, _, tells1⟩ ⟨_, _, _, tells2⟩ ⟨_, _, _, tells3⟩ ⟨_, _, _, tells4⟩ ⟨_, _, _, tells5⟩ ⟨_, _, _, tells6⟩ ⟨_, _, _, tells7⟩ sh a b

/-! the distances of signs -/
def levB (k : Int) : Bool := (rInts 0 1 8).all fun u => (rInts 0 1 8).all fun v => decide (levS costS 6 (sgRow k u) (sgRow k v) 3 = some (ham k u v)) && decide (levS costS 6 (sgRow k u ++ [6]) (sgRow k v) 5 = some (ham k u v + 2))
theorem lev_signs : ∀ k : Int, 0 ≤ k → k < 8 → levB k = true := all8 (by decide +kernel) (by decide +kernel) (by decide +kernel) (by decide +kernel) (by decide +kernel) (by decide +kernel) (by decide +kernel) (by decide +kernel)

section
variable {sh : Int} {T TL : List Str} {WS : List (List Str)}
theorem Tells.telling (h : Tells sh T TL WS) {i j : Int} (i0 : 0 ≤ i) (i8 : i < 8) (j0 : 0 ≤ j) (j8 : j < 8) : (Txt.lower (tAt T i) == Txt.lower (Txt.lower (tAt T j))) = (i == j) := by
  rw [(h.each i i0 i8).low, (h.each j j0 j8).low, (h.each j j0 j8).low2]
  exact eq_of_beq (List.all_eq_true.mp (List.all_eq_true.mp h.tell i (mem8 i0 i8)) j (mem8 j0 j8))
theorem Tells.low_sg (h : Tells sh T TL WS) (k : Sg) : Txt.lower (sgF T TL k) = sgL TL k := by
  match k with
  | 0 => exact (h.each 1 (by decide) (by decide)).low
  | 1 => exact (h.each 2 (by decide) (by decide)).low
  | 2 => exact (h.each 4 (by decide) (by decide)).low
  | 3 => exact (h.each 1 (by decide) (by decide)).low2
  | 4 => exact (h.each 2 (by decide) (by decide)).low2
  | 5 => exact (h.each 4 (by decide) (by decide)).low2
  | 6 => exact ok0.low
theorem Tells.sub (h : Tells sh T TL WS) (k l : Sg) : subCost (sgF T TL k) (sgF T TL l) = costS k l := by
  unfold subCost
  rw [h.low_sg, h.low_sg]
  exact of_decide_eq_true h.cost k l
theorem Tells.row (h : Tells sh T TL WS) (kept : Int) {v : Int} (v0 : 0 ≤ v) (v8 : v < 8) : rowF (wordsF T kept) (splitC (tAt T v)) = (sgRow kept v).map (sgF T TL) := by
  rw [(h.each v v0 v8).spl]
  unfold rowF wordsF sgRow
  rw [List.map_map, List.map_map]
  refine List.map_congr_left fun s hs => ?_
  have hs' : s ∈ ([1, 2, 4] : List Int) := (List.mem_filter.mp hs).1
  have e : (wAt WS v).any (· == tAt T s) = onSide v s := eq_of_beq (List.all_eq_true.mp (List.all_eq_true.mp h.inn v (mem8 v0 v8)) s hs')
  show wordIn (wAt WS v) (tAt T s) = sgF T TL (sgOf v s)
  unfold wordIn
  rw [e]
  simp only [List.mem_cons, List.not_mem_nil, or_false] at hs'
  rcases hs' with rfl | rfl | rfl
  · unfold sgOf; rw [(h.each 1 (by decide) (by decide)).low]; cases onSide v 1 <;> rfl
  · unfold sgOf; rw [(h.each 2 (by decide) (by decide)).low]; cases onSide v 2 <;> rfl
  · unfold sgOf; rw [(h.each 4 (by decide) (by decide)).low]; cases onSide v 4 <;> rfl
end
end Mine
end
noncomputable section
open PySem PySem.W PySem.Calls PyProof.Rows
namespace Mine
def restB (k : Int) : Bool := (rInts 0 1 8).all fun p => (rInts 0 1 8).all fun v => decide (0 ≤ Builtin.bitAnd v (restF k p) ∧ Builtin.bitAnd v (restF k p) < 8)
theorem rest_ok : ∀ k : Int, 0 ≤ k → k < 8 → restB k = true := all8 (by decide +kernel) (by decide +kernel) (by decide +kernel) (by decide +kernel) (by decide +kernel) (by decide +kernel) (by decide +kernel) (by decide +kernel)
theorem and_zero : ∀ v : Int, 0 ≤ v → v < 8 → Builtin.bitAnd v 0 = 0 := all8 (by decide) (by decide) (by decide) (by decide) (by decide) (by decide) (by decide) (by decide)
section
variable {sh : Int} {T TL : List Str} {WS : List (List Str)}
theorem rest_in {k p v : Int} (k0 : 0 ≤ k) (k8 : k < 8) (p0 : 0 ≤ p) (p8 : p < 8) (v0 : 0 ≤ v) (v8 : v < 8) : 0 ≤ Builtin.bitAnd v (restF k p) ∧ Builtin.bitAnd v (restF k p) < 8 :=
  of_decide_eq_true (List.all_eq_true.mp (List.all_eq_true.mp (rest_ok k k0 k8) p (mem8 p0 p8)) v (mem8 v0 v8))
theorem Tells.all (h : Tells sh T TL WS) {ms : List Int} {r : Int} (hm : ∀ u ∈ ms, (0 ≤ Builtin.bitAnd u r ∧ Builtin.bitAnd u r < 8)) {v : Int} (v0 : 0 ≤ v) (v8 : v < 8) :
    getAllF (tabF T r ms) (Txt.lower (Txt.lower (tAt T v))) = (ms.filter fun u => Builtin.bitAnd u r == v).map (tAt T) := by
  unfold getAllF tabF
  rw [List.filter_map, List.map_map]
  congr 1
  refine List.filter_congr fun u hu => ?_
  exact h.telling (hm u hu).1 (hm u hu).2 v0 v8
theorem Tells.whole (h : Tells sh T TL WS) {ms : List Int} {k p : Int} (hm : ∀ v ∈ ms, 0 ≤ v ∧ v < 8) (k0 : 0 ≤ k) (k8 : k < 8) (p0 : 0 ≤ p) (p8 : p < 8) : wholeF T ms k p = wholeN ms k p := by
  unfold wholeF wholeN
  congr 2
  refine List.filter_congr fun v hv => ?_
  obtain ⟨v0, v8⟩ := rInts_mem (List.mem_filter.mp hv).1
  unfold fullAt fullN
  rw [h.all (fun u hu => rest_in k0 k8 p0 p8 (hm u hu).1 (hm u hu).2) v0 v8, List.length_map]
theorem Tells.wholes (h : Tells sh T TL WS) {ms : List Int} {k : Int} (hm : ∀ v ∈ ms, 0 ≤ v ∧ v < 8) (k0 : 0 ≤ k) (k8 : k < 8) : wholeL T ms k = wholeLN ms k := by
  unfold wholeL wholeLN
  congr 1
  refine List.map_congr_left fun p hp => ?_
  obtain ⟨i, hi⟩ := List.mem_iff_getElem?.mp hp
  obtain ⟨a, rfl⟩ := rInts_get hi
  exact h.whole hm k0 k8 (by omega) (by omega)
theorem Tells.rows (h : Tells sh T TL WS) {ms : List Int} (k : Int) (hm : ∀ v ∈ ms, 0 ≤ v ∧ v < 8) : rowsF T ms k = ms.map fun v => (sgRow k v).map (sgF T TL) := by
  unfold rowsF
  exact List.map_congr_left fun v hv => h.row k (hm v hv).1 (hm v hv).2
theorem Tells.injd (h : Tells sh T TL WS) : ∀ x y, sgF T TL x = sgF T TL y → x = y := of_decide_eq_true h.inj
theorem Tells.lev3 (h : Tells sh T TL WS) {k u v : Int} (k0 : 0 ≤ k) (k8 : k < 8) (u0 : 0 ≤ u) (u8 : u < 8) (v0 : 0 ≤ v) (v8 : v < 8) : lev ((sgRow k u).map (sgF T TL)) ((sgRow k v).map (sgF T TL)) 3 = some (ham k u v) := by
  rw [lev_map 6 h.injd h.sub]
  have := List.all_eq_true.mp (List.all_eq_true.mp (lev_signs k k0 k8) u (mem8 u0 u8)) v (mem8 v0 v8)
  exact of_decide_eq_true (Bool.and_eq_true_iff.mp this).1
theorem Tells.lev5 (h : Tells sh T TL WS) {k u v : Int} (k0 : 0 ≤ k) (k8 : k < 8) (u0 : 0 ≤ u) (u8 : u < 8) (v0 : 0 ≤ v) (v8 : v < 8) : lev ((sgRow k u).map (sgF T TL) ++ [zx]) ((sgRow k v).map (sgF T TL)) 5 = some (ham k u v + 2) := by
  have e : (sgRow k u).map (sgF T TL) ++ [zx] = (sgRow k u ++ [6]).map (sgF T TL) := by rw [List.map_append, zx_is]; rfl
  rw [e, lev_map 6 h.injd h.sub]
  have := List.all_eq_true.mp (List.all_eq_true.mp (lev_signs k k0 k8) u (mem8 u0 u8)) v (mem8 v0 v8)
  exact of_decide_eq_true (Bool.and_eq_true_iff.mp this).2
theorem ham_le (k u v : Int) : 0 ≤ ham k u v ∧ ham k u v ≤ 3 := by
  unfold ham
  have a : (sidesF k).length ≤ 3 := by unfold sidesF; exact List.length_filter_le _ _
  have b := List.length_filter_le (fun s => onSide u s != onSide v s) (sidesF k)
  omega
theorem Tells.far (h : Tells sh T TL WS) {ms : List Int} {k : Int} (hm : ∀ v ∈ ms, 0 ≤ v ∧ v < 8) (k0 : 0 ≤ k) (k8 : k < 8) : farF (rowsF T ms k) = farN ms k := by
  rw [h.rows k hm]
  unfold farF farN
  rw [List.map_map]
  refine List.map_congr_left fun u hu => ?_
  show List.map _ (List.map _ _) = _
  rw [List.map_map]
  refine List.map_congr_left fun v hv => ?_
  show dist 3 _ _ = _
  unfold dist
  rw [h.lev3 k0 k8 (hm u hu).1 (hm u hu).2 (hm v hv).1 (hm v hv).2]
  rfl

theorem Tells.ok (h : Tells sh T TL WS) {ms : List Int} {k : Int} (hm : ∀ v ∈ ms, 0 ≤ v ∧ v < 8) (k0 : 0 ≤ k) (k8 : k < 8) (hn : ms.length ≤ 8) (hp : 0 < ms.length) (hg : goodAt ms k = true) : LawOk ms T k (wholeL T ms k) := by
  obtain ⟨g1, g2⟩ := Bool.and_eq_true_iff.mp hg
  have hz : ∀ u ∈ ms, Builtin.bitAnd u 0 = 0 := fun u hu => and_zero u (hm u hu).1 (hm u hu).2
  have l0 := (h.each 0 (by decide) (by decide)).low
  have l00 := (h.each 0 (by decide) (by decide)).low2
  have all0 : ∀ x, x = wdz → getAllF (tabF T 0 ms) x = ms.map (tAt T) := fun x hx => by
    have e : x = Txt.lower (Txt.lower (tAt T 0)) := by rw [l0, l00, h.zero, hx]
    rw [e, h.all (fun u hu => by rw [hz u hu]; decide) (by decide) (by decide)]
    congr 1
    rw [List.filter_eq_self]
    intro u hu
    rw [hz u hu]; rfl
  have row : ∀ a ∈ rowsF T ms k, ∃ u ∈ ms, a = (sgRow k u).map (sgF T TL) := fun a ha => by
    rw [h.rows k hm] at ha
    obtain ⟨u, hu, e⟩ := List.mem_map.mp ha
    exact ⟨u, hu, e.symm⟩
  have rl : (rowsF T ms k).length = ms.length := by unfold rowsF; rw [List.length_map]
  refine ⟨fun x hx => ?_, hm, fun v hv p p0 p8 => rest_in k0 k8 p0 p8 (hm v hv).1 (hm v hv).2, fun v hv => by rw [hz v hv]; decide, hn, hp, all0 _ zX_low, all0 _ zx_low, fun v hv => ?_, fun a ha b hb => ?_, fun a ha => ?_, fun i j hi hj => ?_, ?_, ?_⟩
  · obtain ⟨i, hi⟩ := List.mem_iff_getElem?.mp hx
    have il : i < 8 := h.len ▸ (List.getElem?_eq_some_iff.mp hi).1
    have := (h.each i (by omega) (by omega)).ok
    unfold tAt at this
    rw [Int.toNat_natCast, List.getD_eq_getElem?_getD, hi] at this
    exact this
  · rw [(h.each v (hm v hv).1 (hm v hv).2).spl]
    exact of_decide_eq_true (List.all_eq_true.mp h.lens v (mem8 (hm v hv).1 (hm v hv).2))
  · obtain ⟨u, hu, rfl⟩ := row a ha
    obtain ⟨v, hv, rfl⟩ := row b hb
    unfold dist
    rw [h.lev3 k0 k8 (hm u hu).1 (hm u hu).2 (hm v hv).1 (hm v hv).2]
    rfl
  · obtain ⟨u, hu, rfl⟩ := row a ha
    have hb : (rowsF T ms k).getD 0 [] ∈ rowsF T ms k := by
      rw [List.getD_eq_getElem?_getD, List.getElem?_eq_getElem (by omega)]
      exact List.getElem_mem _
    obtain ⟨v, hv, e⟩ := row _ hb
    unfold d5 dist
    rw [e, h.lev5 k0 k8 (hm u hu).1 (hm u hu).2 (hm v hv).1 (hm v hv).2, h.lev3 k0 k8 (hm u hu).1 (hm u hu).2 (hm v hv).1 (hm v hv).2]
    rfl
  · rw [rl] at hi hj
    rw [h.far hm k0 k8]
    unfold fAt farN
    rw [List.getD_eq_getElem?_getD, List.getD_eq_getElem?_getD, List.getElem?_map, List.getElem?_eq_getElem hi]
    show 0 ≤ (((ms.map (ham k ms[i]))[j]?).getD 0) ∧ _
    rw [Option.map_some, Option.getD_some, List.getElem?_map, List.getElem?_eq_getElem hj]
    exact ham_le _ _ _
  · rw [h.wholes hm k0 k8]; exact of_decide_eq_true g1
  · rw [h.wholes hm k0 k8, h.far hm k0 k8, rl]; exact of_decide_eq_true g2
end

theorem mod8_in (x : Int) : 0 ≤ mod8 x ∧ mod8 x < 8 := by
  unfold mod8; rw [Int.fmod_eq_emod_of_nonneg _ (by omega)]; omega
theorem members_in (ds : List Int) : ∀ v ∈ membersF ds, 0 ≤ v ∧ v < 8 := fun v hv => rInts_mem (List.mem_filter.mp hv).1
theorem members_len (ds : List Int) : (membersF ds).length ≤ 8 := by
  unfold membersF
  refine Nat.le_trans (List.length_filter_le _ _) ?_
  rw [rInts_length]; exact Nat.le_refl _
theorem law_ok {nums : List Int} (hl : nums.length = 6) : LawOk (membersF (dsF nums)) (textsF (shF nums)) (keptF (membersF (dsF nums))) (wholeL (textsF (shF nums)) (membersF (dsF nums)) (keptF (membersF (dsF nums)))) := by
  obtain ⟨s0, s8⟩ := mod8_in (nums.getD 5 0)
  obtain ⟨T, TL, WS, h⟩ := tells_all (shF nums) s0 s8
  have hp : 0 < (membersF (dsF nums)).length := by
    match nums, hl with
    | x :: r, _ =>
      exact members_pos (x := mod8 x) (List.mem_map.mpr ⟨x, List.mem_cons_self, rfl⟩) (mod8_in x).1 (mod8_in x).2
  obtain ⟨⟨k0, k8⟩, hg⟩ := fam_good hp
  rw [h.is]
  exact h.ok (members_in _) k0 k8 (members_len _) hp hg
theorem law_fl (nums : List Int) : ∀ v, 0 ≤ v → v < 8 → (hexS (pfAt (v * 2 ^ (shF nums).toNat) 32).fl).length ≤ 100 ∧ ((pfNames (v * 2 ^ (shF nums).toNat)).map (·.length)).sum + (pfNames (v * 2 ^ (shF nums).toNat)).length ≤ 1000000 := fun v v0 v8 => by
  obtain ⟨s0, s8⟩ := mod8_in (nums.getD 5 0)
  obtain ⟨T, TL, WS, h⟩ := tells_all (shF nums) s0 s8
  exact ⟨(h.each v v0 v8).hex, (h.each v v0 v8).sum⟩
end Mine
end
noncomputable section
open PySem PySem.W PySem.Calls PyProof.Rows
namespace Mine
def sPos : Stmt → Pos
  | .FunctionDef _ _ _ _ _ _ _ _ _ p => p
  | _ => ⟨0, 0, 0, 0⟩
def dL : DefRec := ⟨sName (topStmt 24), sParams (topStmt 24), sBody (topStmt 24), sScope (topStmt 24), sPos (topStmt 24)⟩
theorem reps_ints {g : Gm} : ∀ {vs : List Value} {ns : List Int}, IntsAre vs ns → Reps g vs (PI ns)
  | _, _, .nil => .nil
  | _, _, .cons n t r => .cons (.int n t) (reps_ints r)
def gnone : Gm := fun _ => none
theorem gnone_le (h : Heap) : Le gnone h := fun _ _ e => nomatch e
theorem gadd_le {h : Heap} {a : Addr} {o : Obj} (e : h.get? a = some o) : Le (gadd gnone a o) h := fun b o' e' => by
  by_cases q : b = a
  · subst q; rw [gadd_self] at e'; cases e'; exact e
  · rw [gadd_ne q] at e'; cases e'
theorem callerA_ok : AOk (0 + 4 + 1) callerA := ⟨rfl, by decide, by decide⟩
theorem law_call {w : World} {s : Shared} {fa a : Addr} {o : Obj} {pm cd doc : Value} {vs : List Value} {ns : List Int} {R : Result → Shared → Prop} (ho : s.heap.get? fa = some o) (hd : o.data = .func (fdL pm cd doc .none .none)) (hcd : s.heap.CodeRec cd (sName (topStmt 24)))
    (B : Base w s.heap) (hl : s.heap.IsList a vs.toArray) (hi : IntsAre vs ns) (hn : ns.length ≤ 63) (hR : ∀ s', Keeps s s' → R (.ok (.ret (.bool true))) s') : codeAny (MM w) callerA (.call (.ref fa) ⟨[.ref a], []⟩) R s := by
  obtain ⟨ol, hl1, hl2, n, hl3⟩ := hl
  have le : Le (gadd gnone a ol) s.heap := gadd_le hl1
  have R0 : Rep (gadd gnone a ol) (.ref a) (.list (PI ns)) := .list gadd_self hl2 hl3 (reps_ints hi)
  refine call_codeH (k := 4) (g := gadd gnone a ol) (args := ⟨[.ref a], []⟩) (xs := [Str.ofString "script"]) (ps := [.list (PI ns)]) callerA_ok ho hd rfl rfl hcd (by decide) (by rfl) rfl rfl rfl rfl rfl rfl B ?bind ?_
  case bind =>
    have e : bindArgs (fdL pm cd doc .none .none) ⟨[.ref a], []⟩ = pure [(Str.ofString "script", .ref a)] := by rfl
    rw [e]
    exact wpAny_pure ⟨_, [.ref a], Grow.refl le, rfl, rfl, .cons R0 .nil⟩
  intro L s₀ g₀ s' g' E' G S hA'
  replace S : SInv w s₀ g₀ _ [] g₀ s' g' [(Str.ofString "script", .list (PI ns))] := S
  refine wpAny_mono (law_body (k := 0) hA' hn (law_fl _) (law_ok (numAt_len _ _)) S) (fun fl s'' hf => ?_) fun _ _ e => e
  obtain ⟨v, g'', rfl, G', r⟩ := hf
  cases r
  exact hR _ (keeps_trans G.keeps G'.keeps)
end Mine
end
noncomputable section
open PySem PySem.W PyProof.Rows
namespace Mine

/-! ## the top's run over a tree of objects -/
noncomputable def topRunT (tb : String → Option Builtin) (p : Program) (w : World) (n₀ : Nat) (ann : Option Value) : Nat → SharedT → Thread → Option SharedT
  | 0, _, _ => none
  | n + 1, s, t => match through t with
    | true => some s
    | false => match stepOk n₀ ann t with
      | false => none
      | true => match stepT (denote tb) p w s t with
        | some (s', t') => topRunT tb p w n₀ ann n s' t'
        | none => none
theorem topRunT_of {tb : String → Option Builtin} {p : Program} {w : World} {n₀ : Nat} {ann : Option Value} : ∀ {n : Nat} {s s' : SharedT} {t : Thread}, topRunT tb p w n₀ ann n s t = some s' → topRun tb p w n₀ ann n s.abs t = some s'.abs
  | 0, _, _, _, h => by cases h
  | n + 1, s, s', t, h => by
    unfold topRunT at h
    unfold topRun
    cases he : through t with
    | true => rw [he] at h; cases h; rfl
    | false =>
      rw [he] at h
      cases hk : stepOk n₀ ann t with
      | false => rw [hk] at h; cases h
      | true =>
        rw [hk] at h
        cases hs : stepT (denote tb) p w s t with
        | none => rw [hs] at h; cases h
        | some r => obtain ⟨s₂, t₂⟩ := r; rw [hs] at h; rw [stepT_spec hs]; exact topRunT_of h
noncomputable def importEndsT (tb : String → Option Builtin) (p : Program) (w : World) : Nat → SharedT → Thread → Option SharedT
  | 0, _, _ => none
  | n + 1, s, t => match t.atExitBegin with
    | some [] => some s
    | some (_ :: _) => none
    | none => match stepT (denote tb) p w s t with
      | some (s', t') => importEndsT tb p w n s' t'
      | none => none
theorem importEndsT_of {tb : String → Option Builtin} {p : Program} {w : World} : ∀ {n : Nat} {s s' : SharedT} {t : Thread}, importEndsT tb p w n s t = some s' → importEnds tb p w n s.abs t = some s'.abs
  | 0, _, _, _, h => by cases h
  | n + 1, s, s', t, h => by
    unfold importEndsT at h
    unfold importEnds
    cases he : t.atExitBegin with
    | some l =>
      rw [he] at h
      cases l with
      | nil => cases h; rfl
      | cons _ _ => cases h
    | none =>
      rw [he] at h
      cases hs : stepT (denote tb) p w s t with
      | none => rw [hs] at h; cases h
      | some r => obtain ⟨s₂, t₂⟩ := r; rw [hs] at h; rw [stepT_spec hs]; exact importEndsT_of h

noncomputable def treeFrom : List Obj → BT → Nat → Option BT
  | [], t, _ => some t
  | o :: r, t, n => match ((t.ins n o).get n).isSome with
    | true => treeFrom r (t.ins n o) (n + 1)
    | false => none
theorem treeFrom_of (life : Life) : ∀ {l : List Obj} {t t' : BT} {n : Nat}, treeFrom l t n = some t' → absHeap t' (n + l.length) life = ⟨(absHeap t n life).objs ++ l.toArray, life⟩
  | [], t, t', n, h => by
    cases h
    show absHeap t n life = _
    simp [absHeap]
  | o :: r, t, t', n, h => by
    unfold treeFrom at h
    cases e : ((t.ins n o).get n).isSome with
    | false => rw [e] at h; cases h
    | true =>
      rw [e] at h
      have := treeFrom_of life h
      rw [show n + (o :: r).length = n + 1 + r.length by simp; omega, this, absHeap_ins e]
      simp [Heap.push]
def asTree (s : Shared) : Option SharedT := (treeFrom s.heap.objs.toList .nil 0).map fun t => ⟨t, s.heap.objs.size, s.heap.life, s.gens, s.drawn, s.toks, s.os⟩
theorem asTree_of {s : Shared} {t : SharedT} (h : asTree s = some t) : t.abs = s := by
  obtain ⟨b, hb, rfl⟩ := Option.map_eq_some_iff.mp h
  obtain ⟨⟨objs, life⟩, gens, drawn, toks, os⟩ := s
  have := treeFrom_of life hb
  rw [Nat.zero_add, Array.length_toList] at this
  show Shared.mk (absHeap b objs.size life) gens drawn toks os = _
  rw [this]
  simp [absHeap, BT.list]

def tree0 (p : Program) : SharedT := ⟨.nil, 0, (start p).1.heap.life, (start p).1.gens, (start p).1.drawn, (start p).1.toks, (start p).1.os⟩
theorem tree0_of (p : Program) : (tree0 p).abs = (start p).1 := by rfl
def topFromT (tb : String → Option Builtin) (p : Program) (w : World) (N : Nat) (s₀ : Shared) : Option Shared :=
  match s₀.heap.isNs mainGlobals && s₀.gens.size == 0 with
  | true => (asTree s₀).bind fun t₀ => (topRunT tb p w s₀.heap.objs.size (s₀.heap.nsMap mainGlobals "__annotations__") N t₀ (topStub p)).bind fun t₁ => match staticsOk (importedModules p.main.body) s₀.heap t₁.abs.heap && namesBound p t₁.abs.heap && gensDone t₁.abs && laidKept s₀.heap t₁.abs.heap with
      | true => some t₁.abs
      | false => none
  | false => none
theorem topFromT_of {tb : String → Option Builtin} {p : Program} {w : World} {N : Nat} {s₀ s : Shared} (h : topFromT tb p w N s₀ = some s) : topFrom tb p w N s₀ = some s := by
  unfold topFromT at h
  unfold topFrom
  cases e : (s₀.heap.isNs mainGlobals && s₀.gens.size == 0) with
  | false => rw [e] at h; cases h
  | true =>
    rw [e] at h
    obtain ⟨t₀, h0, h⟩ := Option.bind_eq_some_iff.mp h
    obtain ⟨t₁, h1, h⟩ := Option.bind_eq_some_iff.mp h
    have := topRunT_of h1
    rw [asTree_of h0] at this
    show Option.bind _ _ = _
    rw [this]
    exact h
def openEndsT (tb : String → Option Builtin) (p : Program) (w : World) (N : Nat) : Option Shared :=
  (importEndsT tb (opening p) w N (tree0 (opening p)) (start (opening p)).2).bind fun t => (fenceModules? p t.abs).bind (topFromT tb p w N)
theorem openEndsT_of {tb : String → Option Builtin} {p : Program} {w : World} {N : Nat} {s : Shared} (h : openEndsT tb p w N = some s) : openEnds tb p w N = some s := by
  obtain ⟨t, h0, h⟩ := Option.bind_eq_some_iff.mp h
  obtain ⟨s₀, h1, h⟩ := Option.bind_eq_some_iff.mp h
  have := importEndsT_of h0
  rw [tree0_of] at this
  unfold openEnds fencedOpening
  rw [this]
  show Option.bind (fenceModules? p t.abs) _ = _
  rw [h1]
  exact topFromT_of h
theorem left_tree {p q : Program} {loose : List Str} {Xt : Shared → Bool} {α : Type} {Yf : Shared → α} {Ya : World → α} {N : Nat} {g0 : Bool} {w : World}
    (h : (openEndsT treeTable p w N).map (fun s => (openSeen q loose (importedModules p.main.body) Xt g0 s, Yf s)) = some (openGood q loose, Ya w)) : (openEnds treeTable p w N).map (fun s => (openSeen q loose (importedModules p.main.body) Xt g0 s, Yf s)) = some (openGood q loose, Ya w) := by
  obtain ⟨s, h1, h2⟩ := Option.map_eq_some_iff.mp h
  rw [openEndsT_of h1]
  exact congrArg some h2
end Mine
end
noncomputable section
open PySem PySem.W PyProof.Rows
namespace Mine
def q : Program := view PySem.Challenge.pw_rl0113_01 [24]
def loose : List Str := ["_wall", "tspecials", "_name_disallowed_re", "_value_disallowed_re", "_formatparam", "Headers", "COMPILER_FLAG_NAMES", "pretty_flags", "_MAX_STRING_SIZE", "_MOVE_COST", "_CASE_COST", "_substitution_cost", "_levenshtein_distance", "_law_numbers", "_law_members", "_law_kept", "_law_table", "_law_whole", "_law_pairs", "_sre"]
def Xg (s : Shared) : Bool := gtab.all fun p => decide (s.heap.nsMap mainGlobals p.1 = p.2)
def Xt (s : Shared) : Bool := (xlAt q [] s && recOk (RowW.records PySem.Challenge.rw_rl0113_01.row.toRowW) s) && Xg s
def XP (mg : Str → Option Value) (h : Heap) : Prop := XL q [] mg h ∧ ∀ p ∈ gtab, mg p.1 = p.2
theorem hX (s : Shared) (e : Xt s = true) : XP (s.heap.nsMap mainGlobals) s.heap := by
  have e' := Bool.and_eq_true_iff.mp e
  refine ⟨xl_of s (Bool.and_eq_true_iff.mp e'.1).1, fun p hp => ?_⟩
  exact of_decide_eq_true (List.all_eq_true.mp e'.2 p hp)
theorem hXk (mg : Str → Option Value) (h h' : Heap) (x : XP mg h) (k : ∀ b o, h.get? b = some o → h'.get? b = some o) : XP mg h' := ⟨XL.keeps _ _ _ x.1 k, x.2⟩
def HK : Hook := kHook KK KKa (fun _ => by kernel_rfl)
abbrev rr : OpenRow := PySem.Challenge.rw_rl0113_01.row
def seenW (s : Shared) := (openSeen q loose (importedModules PySem.Challenge.pw_rl0113_01.main.body) Xt true s, HK.obs s)
set_option maxHeartbeats 0 in
theorem left_f : ∀ w : World, (openEndsT treeTable PySem.Challenge.pw_rl0113_01 (w.withFollow "special-get-raises" false) 3200).map seenW = some (openGood q loose, HK.val (w.withFollow "special-get-raises" false)) := fun w => by kernel_rfl
set_option maxHeartbeats 0 in
theorem left_t : ∀ w : World, (openEndsT treeTable PySem.Challenge.pw_rl0113_01 (w.withFollow "special-get-raises" true) 3200).map seenW = some (openGood q loose, HK.val (w.withFollow "special-get-raises" true)) := fun w => by kernel_rfl
theorem left : LeftO PySem.Challenge.pw_rl0113_01 q loose Xt HK.obs HK.val 3200 :=
  byRow2 "special-get-raises" (P := fun w => (openEnds treeTable PySem.Challenge.pw_rl0113_01 w 3200).map seenW = some (openGood q loose, HK.val w)) (fun w => left_tree (left_f w)) fun w => left_tree (left_t w)
end Mine
end
noncomputable section
open PySem PySem.W PySem.Calls PyProof.Rows
namespace Mine
set_option maxHeartbeats 0 in
theorem holds : PySem.Challenge.rw_rl0113_01.Holds := by
  w_on; o_law
  refine W.holds_open (q := q) (loose := loose) (Xt := Xt) (XP := XP) (Yf := HK.obs) (Ya := HK.val) (YP := HK.says) (N := 3200) (d := dL) (kwd := []) left HK.of HK.keeps hX hXk (by kernel_rfl) (by kernel_rfl) (by kernel_rfl) (fun s e => recFacts_of (Bool.and_eq_true_iff.mp (Bool.and_eq_true_iff.mp e).1).2) (by rfl) (by first | assumption | decide +kernel) (by decide +kernel) ⟨rfl, rfl, rfl, rfl, rfl, by decide +kernel⟩ ?hw ?hc
  case hw => w_witness2
  case hc =>
    intro w s₀ s₁ mg mb G Y fa o pm cd doc dV kV ho hd hcd hD hmg hg args vals as hpre hlay hrd hwl hlo
    have KX : (KK w.params).In s₁.heap := kIn_of Y
    have hdV : dV = .none := hD.none (by kernel_rfl)
    have hkV : kV = .none := hD.noKw
    subst hdV hkV
    have X := G.X
    refine Ground.open G ?_
    intro T B D TE TW
    have BB : Base w s₁.heap := ⟨KX, ⟨mg, T.g, X.2⟩, ⟨mb, T.b, T.builtins⟩, T.nolimit, T.nodigits⟩
    wrow_args hpre hlay hrd hwl hlo
    refine enter_call ?_
    rename IntsAre _ _ => hi
    rename Heap.IsList _ _ _ => hl
    refine law_call ho hd hcd BB hl hi (by omega) fun s' K => ?_
    obtain ⟨h', tk, rfl, hk⟩ := K
    refine ⟨.inl ⟨_, _, _, rfl, fun _ => ?nr, .bool _, ?post, fun _ => ⟨.nil, nofun⟩⟩, .of_keep hk, rfl, .of_eq hg⟩
    case nr => rfl
    case post => first | rfl | wrow_post
end Mine
end

theorem PySem.Challenge.cw_rl0113_01_holds : PySem.Challenge.rw_rl0113_01.Holds := by
  exact Mine.holds
