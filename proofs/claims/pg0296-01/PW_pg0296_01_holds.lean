import PyProof.Rows.All
import Wide.All
import OpenK.AllK
import Wide.FinOn
import Lean
import PySem.Challenge.RW_pg0296_01
open PySem PySem.W PyProof.Rows PySem.Calls
set_option Elab.async false
set_option maxRecDepth 100000
set_option linter.unusedVariables false
namespace Mine
section
abbrev pw : Program := PySem.Challenge.pw_pg0296_01
def stm (i : Nat) : Stmt := pw.main.body.getD i (.Pass default)
def clsBody : Stmt → List Stmt
  | .ClassDef _ _ _ b _ _ _ _ _ _ _ => b
  | _ => []
def stmIn (i j : Nat) : Stmt := (clsBody (stm i)).getD j (.Pass default)
def fArgs : Stmt → Arguments
  | .FunctionDef _ a _ _ _ _ _ _ _ _ => a
  | _ => ⟨[], [], none, [], [], none, []⟩
def fBody : Stmt → List Stmt
  | .FunctionDef _ _ b _ _ _ _ _ _ _ => b
  | _ => []
def fScope : Stmt → Scope
  | .FunctionDef _ _ _ _ _ _ sc _ _ _ => sc
  | _ => ⟨.module, [], false, false, []⟩
def mkFd (n q : Str) (st : Stmt) (dV kV doc pm cd : Value) : FuncData :=
  { name := n, qualname := q, params := fArgs st, body := .stmts (fBody st), scope := fScope st, globals := 3, closure := [], defaults := dV, kwdefaults := kV, doc := doc, pyModule := pm, annotations := none, code := cd, closureTuple := .none, builtins := 0 }
def ob3 (P : Params) : Obj := ⟨.type "dict", none, .dict #[⟨PyData.keyHash P "__name__", .str "__name__" 165, .str "law_pg0296_01" 657⟩, ⟨PyData.keyHash P "__doc__", .str "__doc__" 166, .none⟩, ⟨PyData.keyHash P "__package__", .str "__package__" 167, .none⟩, ⟨PyData.keyHash P "__loader__", .str "__loader__" 168, .builtin "__main__.__loader__#opaque"⟩, ⟨PyData.keyHash P "__spec__", .str "__spec__" 169, .none⟩, ⟨PyData.keyHash P "__annotations__", .str "__annotations__" 170, .ref 6⟩, ⟨PyData.keyHash P "__builtins__", .str "__builtins__" 171, .ref 4⟩, ⟨PyData.keyHash P "__file__", .str "__file__" 173, .str "/claim/cut.py" 172⟩, ⟨PyData.keyHash P "__cached__", .str "__cached__" 174, .none⟩, ⟨PyData.keyHash P "_sre", .str "_sre" 275, .ref 12⟩, ⟨PyData.keyHash P "_wall", .str "_wall" 288, .ref 38⟩, ⟨PyData.keyHash P "insort_right", .str "insort_right" 303, .ref 47⟩, ⟨PyData.keyHash P "bisect_right", .str "bisect_right" 317, .ref 56⟩, ⟨PyData.keyHash P "bisect_left", .str "bisect_left" 331, .ref 65⟩, ⟨PyData.keyHash P "_netrclex", .str "_netrclex" 391, .ref 103⟩, ⟨PyData.keyHash P "tspecials", .str "tspecials" 427, .ref 112⟩, ⟨PyData.keyHash P "_name_disallowed_re", .str "_name_disallowed_re" 453, .ref 117⟩, ⟨PyData.keyHash P "_value_disallowed_re", .str "_value_disallowed_re" 487, .ref 122⟩, ⟨PyData.keyHash P "_formatparam", .str "_formatparam" 497, .ref 130⟩, ⟨PyData.keyHash P "Headers", .str "Headers" 656, .ref 253⟩, ⟨PyData.keyHash P "_law_lexer", .str "_law_lexer" 668, .ref 264⟩, ⟨PyData.keyHash P "_law_left", .str "_law_left" 675, .ref 271⟩, ⟨PyData.keyHash P "_law_rounds", .str "_law_rounds" 681, .ref 276⟩, ⟨PyData.keyHash P "law", .str "law" 687, .ref 281⟩] 24, #[]⟩
def ob39 (P : Params) : Obj := ⟨.type "tuple", none, .seq #[.int 0 291, .none] 0, #[]⟩
def ob40 (P : Params) : Obj := ⟨.type "dict", none, .dict #[⟨PyData.keyHash P "key", .str "key" 292, .none⟩] 1, #[]⟩
def ob46 (P : Params) : Obj := ⟨.type "code", none, .fields #[.str "insort_right" 293, .str "insort_right" 294, .str "/claim/cut.py" 295, .int 6 0, .int 4 0, .int 0 0, .int 1 0, .int 3 0, .ref 41, .bool true, .int 276 0, .ref 42, .none, .ref 43, .ref 44, .ref 45, .int 301 0, .int 6 0, .str "/claim/cut.py" 302], #[]⟩
def fd47 : FuncData := mkFd "insort_right" "insort_right" (stm 3) (.ref 39) (.ref 40) (.none) (.str "cpy313.bisect" 289) (.ref 46)
def ob47 (P : Params) : Obj := ⟨.type "function", none, .func fd47, #[]⟩
def ob48 (P : Params) : Obj := ⟨.type "tuple", none, .seq #[.int 0 304, .none] 0, #[]⟩
def ob49 (P : Params) : Obj := ⟨.type "dict", none, .dict #[⟨PyData.keyHash P "key", .str "key" 305, .none⟩] 1, #[]⟩
def ob55 (P : Params) : Obj := ⟨.type "code", none, .fields #[.str "bisect_right" 306, .str "bisect_right" 307, .str "/claim/cut.py" 308, .int 12 0, .int 4 0, .int 0 0, .int 1 0, .int 3 0, .ref 50, .bool true, .int 276 0, .ref 51, .none, .ref 52, .ref 53, .ref 54, .int 315 0, .int 12 0, .str "/claim/cut.py" 316], #[]⟩
def fd56 : FuncData := mkFd "bisect_right" "bisect_right" (stm 4) (.ref 48) (.ref 49) (.none) (.str "cpy313.bisect" 289) (.ref 55)
def ob56 (P : Params) : Obj := ⟨.type "function", none, .func fd56, #[]⟩
def ob57 (P : Params) : Obj := ⟨.type "tuple", none, .seq #[.int 0 318, .none] 0, #[]⟩
def ob58 (P : Params) : Obj := ⟨.type "dict", none, .dict #[⟨PyData.keyHash P "key", .str "key" 319, .none⟩] 1, #[]⟩
def ob64 (P : Params) : Obj := ⟨.type "code", none, .fields #[.str "bisect_left" 320, .str "bisect_left" 321, .str "/claim/cut.py" 322, .int 32 0, .int 4 0, .int 0 0, .int 1 0, .int 3 0, .ref 59, .bool true, .int 276 0, .ref 60, .none, .ref 61, .ref 62, .ref 63, .int 329 0, .int 32 0, .str "/claim/cut.py" 330], #[]⟩
def fd65 : FuncData := mkFd "bisect_left" "bisect_left" (stm 5) (.ref 57) (.ref 58) (.none) (.str "cpy313.bisect" 289) (.ref 64)
def ob65 (P : Params) : Obj := ⟨.type "function", none, .func fd65, #[]⟩
def ob78 (P : Params) : Obj := ⟨.type "code", none, .fields #[.str "__init__" 346, .str "_netrclex.__init__" 347, .str "/claim/cut.py" 348, .int 55 0, .int 2 0, .int 0 0, .int 0 0, .int 3 0, .ref 73, .bool true, .int 276 0, .ref 74, .none, .ref 75, .ref 76, .ref 77, .int 351 0, .int 55 0, .str "/claim/cut.py" 352], #[]⟩
def fd79 : FuncData := mkFd "__init__" "_netrclex.__init__" (stmIn 7 0) (.none) (.none) (.none) (.str "cpy313.netrc" 332) (.ref 78)
def ob79 (P : Params) : Obj := ⟨.type "function", none, .func fd79, #[]⟩
def ob85 (P : Params) : Obj := ⟨.type "code", none, .fields #[.str "_read_char" 354, .str "_netrclex._read_char" 355, .str "/claim/cut.py" 356, .int 61 0, .int 1 0, .int 0 0, .int 0 0, .int 3 0, .ref 80, .bool true, .int 276 0, .ref 81, .none, .ref 82, .ref 83, .ref 84, .int 359 0, .int 61 0, .str "/claim/cut.py" 360], #[]⟩
def fd86 : FuncData := mkFd "_read_char" "_netrclex._read_char" (stmIn 7 1) (.none) (.none) (.none) (.str "cpy313.netrc" 332) (.ref 85)
def ob86 (P : Params) : Obj := ⟨.type "function", none, .func fd86, #[]⟩
def ob92 (P : Params) : Obj := ⟨.type "code", none, .fields #[.str "get_token" 362, .str "_netrclex.get_token" 363, .str "/claim/cut.py" 364, .int 67 0, .int 1 0, .int 0 0, .int 0 0, .int 3 0, .ref 87, .bool true, .int 276 0, .ref 88, .none, .ref 89, .ref 90, .ref 91, .int 369 0, .int 67 0, .str "/claim/cut.py" 370], #[]⟩
def fd93 : FuncData := mkFd "get_token" "_netrclex.get_token" (stmIn 7 2) (.none) (.none) (.none) (.str "cpy313.netrc" 332) (.ref 92)
def ob93 (P : Params) : Obj := ⟨.type "function", none, .func fd93, #[]⟩
def ob99 (P : Params) : Obj := ⟨.type "code", none, .fields #[.str "push_token" 372, .str "_netrclex.push_token" 373, .str "/claim/cut.py" 374, .int 94 0, .int 2 0, .int 0 0, .int 0 0, .int 3 0, .ref 94, .bool true, .int 276 0, .ref 95, .none, .ref 96, .ref 97, .ref 98, .int 377 0, .int 94 0, .str "/claim/cut.py" 378], #[]⟩
def fd100 : FuncData := mkFd "push_token" "_netrclex.push_token" (stmIn 7 3) (.none) (.none) (.none) (.str "cpy313.netrc" 332) (.ref 99)
def ob100 (P : Params) : Obj := ⟨.type "function", none, .func fd100, #[]⟩
def ob102 (P : Params) : Obj := ⟨.type "dict", none, .dict #[⟨PyData.keyHash P "__module__", .str "__module__" 341, .str "cpy313.netrc" 332⟩, ⟨PyData.keyHash P "__firstlineno__", .str "__firstlineno__" 345, .int 53 344⟩, ⟨PyData.keyHash P "__init__", .str "__init__" 353, .ref 79⟩, ⟨PyData.keyHash P "_read_char", .str "_read_char" 361, .ref 86⟩, ⟨PyData.keyHash P "get_token", .str "get_token" 371, .ref 93⟩, ⟨PyData.keyHash P "push_token", .str "push_token" 379, .ref 100⟩, ⟨PyData.keyHash P "__static_attributes__", .str "__static_attributes__" 384, .ref 101⟩, ⟨PyData.keyHash P "__dict__", .str "__dict__" 386, .ref 104⟩, ⟨PyData.keyHash P "__weakref__", .str "__weakref__" 388, .ref 105⟩, ⟨PyData.keyHash P "__doc__", .str "__doc__" 389, .none⟩] 4, #[]⟩
def ob103 (P : Params) : Obj := ⟨.type "type", none, .cls { name := "_netrclex", bases := [.type "object"], mro := [.ref 103, .type "object"], ns := 102, qualname := "_netrclex", hasDict := true, slotNames := [], subclasses := [], abstract := false, collection := none, hasDel := false }, #[none, none, some (.str "_netrclex" 334), some (.str "_netrclex" 342), some (.builtin "object.__new__"), some (.bool true)]⟩
def ob116 (P : Params) : Obj := ⟨.type "tuple", none, .seq #[.int 14 0, .int 10 0, .int 4 0, .int 1 0, .int 1 0, .int 22 0, .int 0 0, .int 31 0, .int 16 0, .int 127 0, .int 0 0, .int 13 0, .int 7 0, .int 22 0, .int 0 0, .int 31 0, .int 16 0, .int 127 0, .int 0 0, .int 1 0] 0, #[]⟩
def ob117 (P : Params) : Obj := ⟨.type "re.Pattern", none, .fields #[.str "[\\x00-\\x1F\\x7F]" 429, .int 32 452, .int 0 0, .none, .none, .ref 116, .int 0 0], #[]⟩
def ob121 (P : Params) : Obj := ⟨.type "tuple", none, .seq #[.int 14 0, .int 14 0, .int 4 0, .int 1 0, .int 1 0, .int 9 0, .int 4294966783 0, .int 0 0, .int 0 0, .int 2147483648 0, .int 0 0, .int 0 0, .int 0 0, .int 0 0, .int 0 0, .int 13 0, .int 11 0, .int 9 0, .int 4294966783 0, .int 0 0, .int 0 0, .int 2147483648 0, .int 0 0, .int 0 0, .int 0 0, .int 0 0, .int 0 0, .int 1 0] 0, #[]⟩
def ob122 (P : Params) : Obj := ⟨.type "re.Pattern", none, .fields #[.str "[\\x00-\\x08\\x0A-\\x1F\\x7F]" 455, .int 32 486, .int 0 0, .none, .none, .ref 121, .int 0 0], #[]⟩
def ob138 (P : Params) : Obj := ⟨.type "tuple", none, .seq #[.none] 0, #[]⟩
def ob144 (P : Params) : Obj := ⟨.type "code", none, .fields #[.str "__init__" 510, .str "Headers.__init__" 511, .str "/claim/cut.py" 512, .int 111 0, .int 2 0, .int 0 0, .int 0 0, .int 3 0, .ref 139, .bool true, .int 276 0, .ref 140, .none, .ref 141, .ref 142, .ref 143, .int 517 0, .int 111 0, .str "/claim/cut.py" 518], #[]⟩
def fd145 : FuncData := mkFd "__init__" "Headers.__init__" (stmIn 13 0) (.ref 138) (.none) (.none) (.str "cpy313.wsgiref.headers" 392) (.ref 144)
def ob145 (P : Params) : Obj := ⟨.type "function", none, .func fd145, #[]⟩
def ob151 (P : Params) : Obj := ⟨.type "code", none, .fields #[.str "_convert_string_type" 520, .str "Headers._convert_string_type" 521, .str "/claim/cut.py" 522, .int 121 0, .int 2 0, .int 0 0, .int 1 0, .int 3 0, .ref 146, .bool true, .int 276 0, .ref 147, .none, .ref 148, .ref 149, .ref 150, .int 527 0, .int 121 0, .str "/claim/cut.py" 528], #[]⟩
def fd152 : FuncData := mkFd "_convert_string_type" "Headers._convert_string_type" (stmIn 13 1) (.none) (.none) (.none) (.str "cpy313.wsgiref.headers" 392) (.ref 151)
def ob152 (P : Params) : Obj := ⟨.type "function", none, .func fd152, #[]⟩
def ob158 (P : Params) : Obj := ⟨.type "code", none, .fields #[.str "__len__" 530, .str "Headers.__len__" 531, .str "/claim/cut.py" 532, .int 129 0, .int 1 0, .int 0 0, .int 0 0, .int 3 0, .ref 153, .bool true, .int 276 0, .ref 154, .none, .ref 155, .ref 156, .ref 157, .int 534 0, .int 129 0, .str "/claim/cut.py" 535], #[]⟩
def fd159 : FuncData := mkFd "__len__" "Headers.__len__" (stmIn 13 2) (.none) (.none) (.none) (.str "cpy313.wsgiref.headers" 392) (.ref 158)
def ob159 (P : Params) : Obj := ⟨.type "function", none, .func fd159, #[]⟩
def ob193 (P : Params) : Obj := ⟨.type "tuple", none, .seq #[.none] 0, #[]⟩
def ob199 (P : Params) : Obj := ⟨.type "code", none, .fields #[.str "get" 576, .str "Headers.get" 577, .str "/claim/cut.py" 578, .int 149 0, .int 3 0, .int 0 0, .int 0 0, .int 3 0, .ref 194, .bool true, .int 276 0, .ref 195, .none, .ref 196, .ref 197, .ref 198, .int 584 0, .int 149 0, .str "/claim/cut.py" 585], #[]⟩
def fd200 : FuncData := mkFd "get" "Headers.get" (stmIn 13 8) (.ref 193) (.none) (.none) (.str "cpy313.wsgiref.headers" 392) (.ref 199)
def ob200 (P : Params) : Obj := ⟨.type "function", none, .func fd200, #[]⟩
def ob204 (P : Params) : Obj := ⟨.type "code", none, .fields #[.str "keys" 587, .str "Headers.keys" 588, .str "/claim/cut.py" 589, .int 156 0, .int 1 0, .int 0 0, .int 0 0, .int 3 0, .ref 201, .bool true, .int 276 0, .ref 202, .none, .none, .none, .ref 203, .int 590 0, .int 156 0, .str "/claim/cut.py" 591], #[]⟩
def fd205 : FuncData := mkFd "keys" "Headers.keys" (stmIn 13 9) (.none) (.none) (.none) (.str "cpy313.wsgiref.headers" 392) (.ref 204)
def ob205 (P : Params) : Obj := ⟨.type "function", none, .func fd205, #[]⟩
def ob249 (P : Params) : Obj := ⟨.type "code", none, .fields #[.str "add_header" 635, .str "Headers.add_header" 636, .str "/claim/cut.py" 637, .int 177 0, .int 3 0, .int 0 0, .int 0 0, .int 11 0, .ref 244, .bool true, .int 276 0, .ref 245, .none, .ref 246, .ref 247, .ref 248, .int 645 0, .int 177 0, .str "/claim/cut.py" 646], #[]⟩
def fd250 : FuncData := mkFd "add_header" "Headers.add_header" (stmIn 13 16) (.none) (.none) (.none) (.str "cpy313.wsgiref.headers" 392) (.ref 249)
def ob250 (P : Params) : Obj := ⟨.type "function", none, .func fd250, #[]⟩
def ob252 (P : Params) : Obj := ⟨.type "dict", none, .dict #[⟨PyData.keyHash P "__module__", .str "__module__" 505, .str "cpy313.wsgiref.headers" 392⟩, ⟨PyData.keyHash P "__firstlineno__", .str "__firstlineno__" 509, .int 109 508⟩, ⟨PyData.keyHash P "__init__", .str "__init__" 519, .ref 145⟩, ⟨PyData.keyHash P "_convert_string_type", .str "_convert_string_type" 529, .ref 152⟩, ⟨PyData.keyHash P "__len__", .str "__len__" 536, .ref 159⟩, ⟨PyData.keyHash P "__setitem__", .str "__setitem__" 545, .ref 166⟩, ⟨PyData.keyHash P "__delitem__", .str "__delitem__" 551, .ref 171⟩, ⟨PyData.keyHash P "__getitem__", .str "__getitem__" 559, .ref 178⟩, ⟨PyData.keyHash P "__contains__", .str "__contains__" 567, .ref 185⟩, ⟨PyData.keyHash P "get_all", .str "get_all" 575, .ref 192⟩, ⟨PyData.keyHash P "get", .str "get" 586, .ref 200⟩, ⟨PyData.keyHash P "keys", .str "keys" 592, .ref 205⟩, ⟨PyData.keyHash P "values", .str "values" 598, .ref 210⟩, ⟨PyData.keyHash P "items", .str "items" 605, .ref 217⟩, ⟨PyData.keyHash P "__repr__", .str "__repr__" 612, .ref 224⟩, ⟨PyData.keyHash P "__str__", .str "__str__" 618, .ref 229⟩, ⟨PyData.keyHash P "__bytes__", .str "__bytes__" 625, .ref 236⟩, ⟨PyData.keyHash P "setdefault", .str "setdefault" 634, .ref 243⟩, ⟨PyData.keyHash P "add_header", .str "add_header" 647, .ref 250⟩, ⟨PyData.keyHash P "__static_attributes__", .str "__static_attributes__" 649, .ref 251⟩, ⟨PyData.keyHash P "__dict__", .str "__dict__" 651, .ref 254⟩, ⟨PyData.keyHash P "__weakref__", .str "__weakref__" 653, .ref 255⟩, ⟨PyData.keyHash P "__doc__", .str "__doc__" 654, .none⟩] 4, #[]⟩
def ob253 (P : Params) : Obj := ⟨.type "type", none, .cls { name := "Headers", bases := [.type "object"], mro := [.ref 253, .type "object"], ns := 252, qualname := "Headers", hasDict := true, slotNames := [], subclasses := [], abstract := false, collection := none, hasDel := false }, #[none, none, some (.str "Headers" 498), some (.str "Headers" 506), some (.builtin "object.__new__"), some (.bool true)]⟩
def ob263 (P : Params) : Obj := ⟨.type "code", none, .fields #[.str "_law_lexer" 659, .str "_law_lexer" 660, .str "/claim/cut.py" 661, .int 191 0, .int 1 0, .int 0 0, .int 0 0, .int 3 0, .ref 258, .bool true, .int 276 0, .ref 259, .none, .ref 260, .ref 261, .ref 262, .int 666 0, .int 191 0, .str "/claim/cut.py" 667], #[]⟩
def fd264 : FuncData := mkFd "_law_lexer" "_law_lexer" (stm 15) (.none) (.none) (.none) (.str "law_pg0296_01" 657) (.ref 263)
def ob264 (P : Params) : Obj := ⟨.type "function", none, .func fd264, #[]⟩
def ob270 (P : Params) : Obj := ⟨.type "code", none, .fields #[.str "_law_left" 669, .str "_law_left" 670, .str "/claim/cut.py" 671, .int 199 0, .int 1 0, .int 0 0, .int 0 0, .int 3 0, .ref 265, .bool true, .int 276 0, .ref 266, .none, .ref 267, .ref 268, .ref 269, .int 673 0, .int 199 0, .str "/claim/cut.py" 674], #[]⟩
def fd271 : FuncData := mkFd "_law_left" "_law_left" (stm 16) (.none) (.none) (.none) (.str "law_pg0296_01" 657) (.ref 270)
def ob271 (P : Params) : Obj := ⟨.type "function", none, .func fd271, #[]⟩
def ob275 (P : Params) : Obj := ⟨.type "code", none, .fields #[.str "_law_rounds" 676, .str "_law_rounds" 677, .str "/claim/cut.py" 678, .int 201 0, .int 2 0, .int 0 0, .int 0 0, .int 3 0, .ref 272, .bool true, .int 276 0, .ref 273, .none, .none, .none, .ref 274, .int 679 0, .int 201 0, .str "/claim/cut.py" 680], #[]⟩
def fd276 : FuncData := mkFd "_law_rounds" "_law_rounds" (stm 17) (.none) (.none) (.none) (.str "law_pg0296_01" 657) (.ref 275)
def ob276 (P : Params) : Obj := ⟨.type "function", none, .func fd276, #[]⟩
def ob280 (P : Params) : Obj := ⟨.type "code", none, .fields #[.str "law" 682, .str "law" 683, .str "/claim/cut.py" 684, .int 219 0, .int 1 0, .int 0 0, .int 0 0, .int 3 0, .ref 277, .bool true, .int 276 0, .ref 278, .none, .none, .none, .ref 279, .int 685 0, .int 219 0, .str "/claim/cut.py" 686], #[]⟩
def fd281 : FuncData := mkFd "law" "law" (stm 18) (.none) (.none) (.none) (.str "law_pg0296_01" 657) (.ref 280)
def ob281 (P : Params) : Obj := ⟨.type "function", none, .func fd281, #[]⟩
def asK : List Addr := [3, 39, 40, 46, 47, 48, 49, 55, 56, 57, 58, 64, 65, 78, 79, 85, 86, 92, 93, 99, 100, 102, 103, 116, 117, 121, 122, 138, 144, 145, 151, 152, 158, 159, 193, 199, 200, 204, 205, 249, 250, 252, 253, 263, 264, 270, 271, 275, 276, 280, 281]
def K (P : Params) : Frag := [(3, ob3 P), (39, ob39 P), (40, ob40 P), (46, ob46 P), (47, ob47 P), (48, ob48 P), (49, ob49 P), (55, ob55 P), (56, ob56 P), (57, ob57 P), (58, ob58 P), (64, ob64 P), (65, ob65 P), (78, ob78 P), (79, ob79 P), (85, ob85 P), (86, ob86 P), (92, ob92 P), (93, ob93 P), (99, ob99 P), (100, ob100 P), (102, ob102 P), (103, ob103 P), (116, ob116 P), (117, ob117 P), (121, ob121 P), (122, ob122 P), (138, ob138 P), (144, ob144 P), (145, ob145 P), (151, ob151 P), (152, ob152 P), (158, ob158 P), (159, ob159 P), (193, ob193 P), (199, ob199 P), (200, ob200 P), (204, ob204 P), (205, ob205 P), (249, ob249 P), (250, ob250 P), (252, ob252 P), (253, ob253 P), (263, ob263 P), (264, ob264 P), (270, ob270 P), (271, ob271 P), (275, ob275 P), (276, ob276 P), (280, ob280 P), (281, ob281 P)]
/-- the part of the text that the head looks at: the row of _sre and the law -/
def q : Program := view pw [0, 18]
def loose : List Str := ["_wall", "insort_right", "bisect_right", "bisect_left", "_netrclex", "tspecials", "_name_disallowed_re", "_value_disallowed_re", "_formatparam", "Headers", "_law_lexer", "_law_left", "_law_rounds"]
def looseT : List Str := loose ++ [("_sre" : Str), "law"]
def obs (s : Shared) : List (Option Obj) × Option Obj := (asK.map s.heap.get?, s.heap.get? 259)
def val (w : World) : List (Option Obj) × Option Obj := ((K w.params).map fun p => some p.2, some (tabObj #[]))
theorem asK_eq (P : Params) : asK = (K P).map (·.1) := rfl
def Says (w : World) (h : Heap) : Prop := (K w.params).In h ∧ h.get? 259 = some (tabObj #[])
theorem says_of (w : World) (s : Shared) (x : obs s = val w) : Says w s.heap := ⟨InK.of (K := K) asK_eq w s (Prod.mk.inj x).1, (Prod.mk.inj x).2⟩
theorem says_keeps (w : World) (h h' : Heap) (x : Says w h) (k : ∀ b o, h.get? b = some o → h'.get? b = some o) : Says w h' := ⟨Frag.In.keeps x.1 k, k _ _ x.2⟩
end
section
set_option maxHeartbeats 0 in
theorem headLeft : LeftO pw q loose (fun s => xlAt q [] s && recOk [] s) obs val 3400 := fun w => by kernel_rfl
end
section

abbrev Bot : Value → Shared → Prop := fun _ _ => False

/-- the callee is kept by what the call finds: a def -/
def IsFn (h : Heap) (f : Value) : Prop := ∃ a o fd, f = .ref a ∧ h.get? a = some o ∧ o.data = .func fd

section
variable {M : Model} {A : Around} {E : Value → Shared → Prop} {s : Shared} {α β : Type}
theorem bot {t : Sem α} {Q : α → Shared → Prop} (h : wpAny M A t Q Bot s) : wpAny M A t Q E s := wpAny_mono h (fun _ _ x => x) fun _ _ x => x.elim
theorem cut {t : Sem α} {Q : α → Shared → Prop} (P : α → Shared → Prop) (h : wpAny M A t P Bot s) (k : ∀ v s', P v s' → Q v s') : wpAny M A t Q E s := wpAny_mono h k fun _ _ x => x.elim
theorem codeQ {c : Code} {P : Result → Shared → Prop} (h : ∀ Q : Result → Shared → Prop, (∀ r s', P r s' → Q r s') → codeAny M A c Q s) : codeAny M A c P s := h P fun _ _ x => x
theorem wpQ {t : Sem α} {P : α → Shared → Prop} (h : ∀ Q : α → Shared → Prop, (∀ v s', P v s' → Q v s') → wpAny M A t Q E s) : wpAny M A t P E s := h P fun _ _ x => x
theorem botC {c : Code} {Q : Value → Shared → Prop} (h : codeAny M A c (fun r s' => ∃ v, r = .ok (.ret v) ∧ Q v s') s) : codeAny M A c (fun r s' => match r with | .ok (.ret v) => Q v s' | .ok _ => False | .error e => E e s') s :=
  codeAny_mono h fun r s' ⟨v, e, q⟩ => by subst e; exact q
theorem call_of {f : Value} {pos : List Value} {kw : List (Str × Value)} {Q : Value → Shared → Prop} (h : codeAny M A (.call f ⟨pos, kw⟩) (fun r s' => ∃ v, r = .ok (.ret v) ∧ Q v s') s) : wpAny M A (call f pos kw) Q E s := wpAny_call (botC h)

theorem keeper_fn {f : Value} {Q : Keeper → Shared → Prop} (hf : IsFn s.heap f) (h : Q .frame s) : wpAny M A (keeperOf f) Q E s := by
  obtain ⟨a, o, fd, rfl, ho, hd⟩ := hf
  unfold keeperOf
  refine wpAny_bind (wpAny_load ho ?_)
  rw [hd]
  exact wpAny_pure h
theorem keeper_val {f : Value} {Q : Keeper → Shared → Prop} (hf : ∀ a, f ≠ .ref a) (h : Q .machine s) : wpAny M A (keeperOf f) Q E s := by
  unfold keeperOf
  cases f <;> first | exact wpAny_pure h | exact absurd rfl (hf _)

theorem evalArgs_kw {f : Value} {args : List (Bool × Sem Value)} {kws : List (Option Str × Sem Value)} {Q : Args → Shared → Prop}
    (ha : args.any (·.1) = false) (hk : kws.all (·.1.isSome) = true)
    (h : wpAny M A (spliced args) (fun vs s₁ => wpAny M A (evalAll (kws.map (·.2))) (fun ks s₂ => Q ⟨vs, (kws.filterMap (·.1)).zip ks⟩ s₂) E s₁) E s) :
    wpAny M A (evalArgs f true args kws) Q E s := by
  match args, ha with
  | [], _ =>
    refine wpAny_bind (m := spliced []) (wpAny_mono h (fun vs s₁ h₁ => wpAny_bind (wpAny_pure (wpAny_holding ?_))) fun _ _ x => x)
    dsimp only
    rw [if_pos hk]
    exact wpAny_bind (wpAny_mono h₁ (fun ks s₂ h₂ => wpAny_bind (wpAny_pure (wpAny_pure h₂))) fun _ _ x => x)
  | (false, x) :: r, ha =>
    refine wpAny_bind (m := spliced ((false, x) :: r)) (wpAny_mono h (fun vs s₁ h₁ => wpAny_bind (wpAny_pure (wpAny_holding ?_))) fun _ _ x => x)
    dsimp only
    rw [if_pos hk]
    exact wpAny_bind (wpAny_mono h₁ (fun ks s₂ h₂ => wpAny_bind (wpAny_pure (wpAny_pure h₂))) fun _ _ x => x)
  | (true, x) :: r, ha => simp at ha
/-- a call by places and by names, no star -/
theorem callWith_of' {pos : Pos} {f : Value} {first : List Value} {args : List (Bool × Sem Value)} {kws : List (Option Str × Sem Value)} {Q : Value → Shared → Prop}
    (ha : (args.any (·.1) || kws.any (·.1.isNone)) = false) (hk : kws.all (·.1.isSome) = true)
    (h : wpAny M A (spliced args) (fun vs s₁ => wpAny M A (evalAll (kws.map (·.2))) (fun ks s₂ => (∀ (Q : Keeper → Shared → Prop), Q .frame s₂ → Q .machine s₂ → wpAny M A (keeperOf f) Q E s₂) ∧
      wpAny M A (call f (first ++ vs) ((kws.filterMap (·.1)).zip ks)) Q E s₂) E s₁) E s) :
    wpAny M A (callWith pos f first args kws) Q E s := by
  unfold callWith
  refine wpAny_bind (wpAny_holding (evalArgs_kw (Bool.or_eq_false_iff.mp ha).1 hk (wpAny_mono h (fun vs s₁ h₁ => wpAny_mono h₁ (fun ks s₂ h₂ => ?_) fun _ _ x => x) fun _ _ x => x)))
  refine wpAny_bind (wpAny_standAt ?_)
  dsimp only
  rw [ha]
  obtain ⟨hkp, hc⟩ := h₂
  have fin : wpAny M A (call f (first ++ vs) ((kws.filterMap (·.1)).zip ks)) (fun r s' => wpAny M A (holding [r] point >>= fun _ => pure r) Q E s') E s₂ :=
    wpAny_mono hc (fun r s' hr => wpAny_bind (wpAny_holding (wpAny_point (wpAny_pure hr)))) fun _ _ x => x
  refine wpAny_bind (hkp _ ?_ ?_)
  · dsimp only
    split
    · exact wpAny_bind fin
    · exact wpAny_bind (wpAny_keep fin)
  · exact wpAny_bind fin
theorem callWith_fn {pos : Pos} {f : Value} {first : List Value} {args : List (Bool × Sem Value)} {kws : List (Option Str × Sem Value)} {Q : Value → Shared → Prop}
    (ha : (args.any (·.1) || kws.any (·.1.isNone)) = false) (hk : kws.all (·.1.isSome) = true)
    (h : wpAny M A (spliced args) (fun vs s₁ => wpAny M A (evalAll (kws.map (·.2))) (fun ks s₂ => IsFn s₂.heap f ∧
      wpAny M A (call f (first ++ vs) ((kws.filterMap (·.1)).zip ks)) Q E s₂) E s₁) E s) :
    wpAny M A (callWith pos f first args kws) Q E s :=
  callWith_of' ha hk (wpAny_mono h (fun vs s₁ h₁ => wpAny_mono h₁ (fun ks s₂ h₂ => ⟨fun Q q _ => keeper_fn h₂.1 q, h₂.2⟩) fun _ _ x => x) fun _ _ x => x)
theorem callWith_val {pos : Pos} {f : Value} {first : List Value} {args : List (Bool × Sem Value)} {kws : List (Option Str × Sem Value)} {Q : Value → Shared → Prop}
    (ha : (args.any (·.1) || kws.any (·.1.isNone)) = false) (hk : kws.all (·.1.isSome) = true) (hf : ∀ a, f ≠ .ref a)
    (h : wpAny M A (spliced args) (fun vs s₁ => wpAny M A (evalAll (kws.map (·.2))) (fun ks s₂ =>
      wpAny M A (call f (first ++ vs) ((kws.filterMap (·.1)).zip ks)) Q E s₂) E s₁) E s) :
    wpAny M A (callWith pos f first args kws) Q E s :=
  callWith_of' ha hk (wpAny_mono h (fun vs s₁ h₁ => wpAny_mono h₁ (fun ks s₂ h₂ => ⟨fun Q _ q => keeper_val hf q, h₂⟩) fun _ _ x => x) fun _ _ x => x)

end

/-- what stands below: the table of the text's own objects, the globals, the built-ins -/
structure Base (w : World) (mg mb : Str → Option Value) (h : Heap) : Prop where
  X : (K w.params).In h
  T : TopRead topProg looseT mg mb h
abbrev Sub (h h' : Heap) : Prop := ∀ b o, h.get? b = some o → h'.get? b = some o
theorem Base.keeps {w : World} {mg mb : Str → Option Value} {h h' : Heap} (B : Base w mg mb h) (k : Sub h h') : Base w mg mb h' := ⟨B.X.keeps k, B.T.keeps k⟩

/-- objects that a call finds and may change -/
structure Owns (h₀ h : Heap) (own : List (Addr × Obj)) : Prop where
  at_ : ∀ p ∈ own, h.get? p.1 = some p.2 ∧ h₀.get? p.1 = none
  nd : (own.map (·.1)).Nodup

/-- room for n more frames -/
structure Room (A : Around) (n : Nat) : Prop where
  depth : A.depth + n < recursionLimit
  units : A.units + 8 * n < cLine
  handled : A.handled = none
theorem Room.mono {A : Around} {n k : Nat} (R : Room A n) (h : k ≤ n) : Room A k := ⟨by have := R.depth; omega, by have := R.units; omega, R.handled⟩
theorem Room.deeper {A : Around} {n : Nat} {env : Env} (R : Room A (n + 1)) : Room (A.deeper env) n := ⟨by have := R.depth; show A.depth + 1 + n < _; omega, by have := R.units; show A.units + 3 + 8 * n < _; omega, R.handled⟩
theorem Room.in1 {A : Around} {n : Nat} (R : Room A (n + 1)) : Room A.in1 n := ⟨by have := R.depth; show A.depth + n < _; omega, by have := R.units; show A.units + 1 + 8 * n < _; omega, R.handled⟩

/-- a call's end: the value, and how the heap has changed: new objects, the own ones, nothing else -/
def Post (own : List (Addr × Obj)) (s : Shared) (V : Value → Heap → Prop) (r : Result) (s' : Shared) : Prop :=
  ∃ v h' t, r = .ok (.ret v) ∧ s' = { s with heap := h', toks := t } ∧ s.heap.objs.size ≤ h'.objs.size ∧ (∀ b o, b ∉ own.map (·.1) → s.heap.get? b = some o → h'.get? b = some o) ∧ V v h'

/-- frame and ledger of a body -/
structure St (g : Heap) (L : Addr) (m : Str → Option Value) (news : List (Addr × Obj)) (h : Heap) : Prop where
  F : Fr g L h m
  N : News g L h news
  nd : (news.map (·.1)).Nodup

section
variable {w : World} {A : Around} {s : Shared} {h₀ : Heap}
theorem Fr.size {g h : Heap} {L : Addr} {m : Str → Option Value} (F : Fr g L h m) : L < h.objs.size := F.ns.lt

theorem enter {R : Result → Shared → Prop} {name qual : Str} {params : Arguments} {body : List Stmt} {scope : Scope} {cl : List (Str × Addr)} {dV kV doc pm cdv ct : Value} {an : Option Addr} {f : Addr} {fo : Obj} {args : Args} {binds : List (Str × Value)} {own : List (Addr × Obj)}
    (O : Owns h₀ s.heap own) (hk : Sub h₀ s.heap) (hlim : h₀.NoLimit) (hroom : A.depth < recursionLimit)
    (ho : s.heap.get? f = some fo) (hd : fo.data = .func (fnX name qual params body scope cl dV kV doc pm an cdv ct)) (hcd : s.heap.CodeRec cdv qual)
    (hbind : BindsTo s (fnX name qual params body scope cl dV kV doc pm an cdv ct) args binds) (hloc : ∀ y ∈ binds, scope.names.lookup y.1 = some .local)
    (h : ∀ g L h₁, Sub h₀ g → g.objs.size = s.heap.objs.size → (∀ b o, b ∉ own.map (·.1) → s.heap.get? b = some o → g.get? b = some o) → St g L (fun y => binds.reverse.lookup y) own h₁ → L = s.heap.objs.size →
      wpAny (model pw w) (A.deeper (envX qual scope L f cdv cl)) (execs body (envX qual scope L f cdv cl)) (fun fl s' => R (.ok (.ret (match fl with | .ret v => v | _ => .none))) s') Bot
        { s with heap := h₁, toks := s.toks + binds.length })
    (hcell : ∀ x ∈ scope.names, x.2 ≠ .cell) (hco : scope.isCoroutine = false) (hgen : scope.isGenerator = false) (hsk : scope.kind = .function) :
    codeAny (model pw w) A (.call (.ref f) args) R s := by
  refine codeAny_call_def (fd := fnX name qual params body scope cl dV kV doc pm an cdv ct) (body := body) (binds := binds) hroom ho hd (hlim.keeps hk) hcd rfl hbind hcell hloc (fun h₁ hns hk₁ => ?_) hco hgen hsk
  have hsz : (hideAll s.heap (own.map (·.1))).objs.size = s.heap.objs.size := hideAll_size _ _
  refine wpAny_mono (h (hideAll s.heap (own.map (·.1))) s.heap.objs.size h₁ (fun b o e => hideAll_get _ (hk b o e) fun q => ?_) hsz (fun b o nb e => hideAll_get _ e nb) ⟨⟨hns, fun b o e => hk₁ b o (of_hideAll _ e), Nat.le_of_eq hsz⟩, fun p hp => ⟨hk₁ _ _ (O.at_ p hp).1, Nat.ne_of_lt (Heap.lt_size (O.at_ p hp).1), hideAll_none _ (List.mem_map_of_mem hp)⟩, O.nd⟩ rfl) (fun _ _ x => x) fun _ _ x => x.elim
  obtain ⟨p, hp, rfl⟩ := List.mem_map.mp q
  rw [(O.at_ p hp).2] at e; cases e

/-- a def of the text's is entered -/
theorem enterK {mg mb : Str → Option Value} {R : Result → Shared → Prop} {n q : Str} {st : Stmt} {dV kV doc pm : Value} {c f : Addr} {args : Args} {binds : List (Str × Value)} {own : List (Addr × Obj)}
    (ho : (K w.params).lookup f = some ⟨.type "function", none, .func (mkFd n q st dV kV doc pm (.ref c)), #[]⟩) (hcd : codeIn (K w.params) (.ref c) q = true)
    (hs : ((fScope st).names.all (fun x => x.2 != .cell) && !(fScope st).isCoroutine && !(fScope st).isGenerator && (fScope st).kind == .function) = true)
    (B : Base w mg mb h₀) (hk : Sub h₀ s.heap) (O : Owns h₀ s.heap own) (hroom : A.depth < recursionLimit)
    (hbind : BindsTo s (mkFd n q st dV kV doc pm (.ref c)) args binds) (hloc : (binds.all fun y => (fScope st).names.lookup y.1 == some .local) = true)
    (h : ∀ g L h₁ m tk, Base w mg mb g → g.objs.size = s.heap.objs.size → (∀ b o, b ∉ own.map (·.1) → s.heap.get? b = some o → g.get? b = some o) → St g L m own h₁ → (∀ y, m y = binds.reverse.lookup y) → L = s.heap.objs.size →
      wpAny (model pw w) (A.deeper (envX q (fScope st) L f (.ref c) [])) (execs (fBody st) (envX q (fScope st) L f (.ref c) [])) (fun fl s' => R (.ok (.ret (match fl with | .ret v => v | _ => .none))) s') Bot
        { s with heap := h₁, toks := tk }) :
    codeAny (model pw w) A (.call (.ref f) args) R s := by
  simp only [Bool.and_eq_true, Bool.not_eq_true', List.all_eq_true, bne_iff_ne, beq_iff_eq] at hs
  refine enter (params := fArgs st) (cl := []) (an := none) (ct := .none) O hk B.T.nolimit hroom (hk _ _ (B.X _ _ ho)) rfl (codeRec_of (B.X.keeps hk) hcd) hbind (fun y hy => by simpa using List.all_eq_true.mp hloc y hy)
    (fun g L h₁ hg hz hb S e => h g L h₁ _ _ (B.keeps hg) hz hb S (fun _ => rfl) e) (fun x hx => hs.1.1.1 x hx) hs.1.1.2 hs.1.2 hs.2
/-- the end of a body as the end of the call -/
theorem St.post {g h : Heap} {L : Addr} {m : Str → Option Value} {news own : List (Addr × Obj)} {V : Value → Heap → Prop} {v : Value} {t : Nat} (S : St g L m news h) (hL : L = s.heap.objs.size)
    (hg : ∀ b o, b ∉ own.map (·.1) → s.heap.get? b = some o → g.get? b = some o) (hv : V v h) : Post own s V (.ok (.ret v)) { s with heap := h, toks := t } :=
  ⟨v, h, t, rfl, rfl, Nat.le_of_lt (hL ▸ Fr.size S.F), fun b o nb e => S.F.keep b o (hg b o nb e), hv⟩

/-- a call within a body: the ledger behind it -/
theorem St.after {g h h' : Heap} {L : Addr} {m : Str → Option Value} {own own' rest : List (Addr × Obj)} (S : St g L m (own ++ rest) h) (hsz : h.objs.size ≤ h'.objs.size)
    (hk : ∀ b o, b ∉ own.map (·.1) → h.get? b = some o → h'.get? b = some o) (ha : own'.map (·.1) = own.map (·.1)) (ho : ∀ p ∈ own', h'.get? p.1 = some p.2) : St g L m (own' ++ rest) h' := by
  have nL : L ∉ own.map (·.1) := fun q => by
    obtain ⟨p, hp, e⟩ := List.mem_map.mp q
    exact (S.N p (List.mem_append_left _ hp)).2.1 e
  have nb : ∀ b o, g.get? b = some o → b ∉ own.map (·.1) := fun b o e q => by
    obtain ⟨p, hp, rfl⟩ := List.mem_map.mp q
    rw [(S.N p (List.mem_append_left _ hp)).2.2] at e; cases e
  obtain ⟨oL, es, ep, hL, r⟩ := S.F.ns
  refine ⟨⟨⟨oL, es, ep, hk _ _ nL hL, r⟩, fun b o e => hk b o (nb b o e) (S.F.keep b o e), S.F.above⟩, fun p hp => ?_, ?_⟩
  · rcases List.mem_append.mp hp with hp | hp
    · have hm : p.1 ∈ own.map (·.1) := ha ▸ List.mem_map_of_mem hp
      obtain ⟨p', hp', e⟩ := List.mem_map.mp hm
      have P := S.N p' (List.mem_append_left _ hp')
      rw [e] at P
      exact ⟨ho p hp, P.2⟩
    · have P := S.N p (List.mem_append_right _ hp)
      refine ⟨hk _ _ (fun q => ?_) P.1, P.2⟩
      have nd := S.nd
      rw [List.map_append, List.nodup_append] at nd
      exact nd.2.2 _ q _ (List.mem_map_of_mem hp) rfl
  · have nd := S.nd
    rw [List.map_append] at nd ⊢
    rw [ha]; exact nd
/-- the ledger in another order, or less of it -/
theorem St.perm {g h : Heap} {L : Addr} {m : Str → Option Value} {news news' : List (Addr × Obj)} (S : St g L m news h) (hs : ∀ p ∈ news', p ∈ news) (nd : (news'.map (·.1)).Nodup) : St g L m news' h := ⟨S.F, fun p hp => S.N p (hs p hp), nd⟩
theorem St.permP {g h : Heap} {L : Addr} {m : Str → Option Value} {l l' : List (Addr × Obj)} (S : St g L m l h) (p : l'.Perm l) : St g L m l' h := S.perm (fun x hx => p.subset hx) ((p.map _).nodup_iff.mpr S.nd)
theorem St.owns {g h : Heap} {L : Addr} {m : Str → Option Value} {own rest : List (Addr × Obj)} (S : St g L m (own ++ rest) h) : Owns g h own :=
  ⟨fun p hp => ⟨(S.N p (List.mem_append_left _ hp)).1, (S.N p (List.mem_append_left _ hp)).2.2⟩, by have nd := S.nd; rw [List.map_append, List.nodup_append] at nd; exact nd.1⟩
/-- a new object onto the ledger -/
theorem St.add {g h h' : Heap} {L a : Addr} {o : Obj} {m : Str → Option Value} {news : List (Addr × Obj)} (S : St g L m news h) (hk : Sub h h') (ho : h'.get? a = some o) (hn : h.objs.size ≤ a) : St g L m ((a, o) :: news) h' := by
  have na : h.get? a = none := by
    cases q : h.get? a with
    | none => rfl
    | some o' => exact absurd (Heap.lt_size q) (Nat.not_lt.mpr hn)
  refine ⟨⟨S.F.ns.keeps hk, fun b o e => hk b o (S.F.keep b o e), S.F.above⟩, fun p hp => ?_, ?_⟩
  · rcases List.mem_cons.mp hp with rfl | hp
    · refine ⟨ho, Nat.ne_of_gt (Nat.lt_of_lt_of_le (Fr.size S.F) hn), ?_⟩
      cases q : g.get? a with
      | none => rfl
      | some o' => rw [S.F.keep _ _ q] at na; cases na
    · exact ⟨hk _ _ (S.N p hp).1, (S.N p hp).2⟩
  · rw [List.map_cons, List.nodup_cons]
    refine ⟨fun q => ?_, S.nd⟩
    obtain ⟨p, hp, e⟩ := List.mem_map.mp q
    have e' : p.1 = a := e
    rw [← e', (S.N p hp).1] at na; cases na
theorem St.keeps {g h h' : Heap} {L : Addr} {m : Str → Option Value} {news : List (Addr × Obj)} (S : St g L m news h) (hk : Sub h h') : St g L m news h' :=
  ⟨⟨S.F.ns.keeps hk, fun b o e => hk b o (S.F.keep b o e), S.F.above⟩, fun p hp => ⟨hk _ _ (S.N p hp).1, (S.N p hp).2⟩, S.nd⟩
end

/-! rules for the syntax, over envX and St -/
section
variable {w : World} {mg mb : Str → Option Value} {A : Around} {E : Value → Shared → Prop} {s : Shared} {g : Heap} {L a : Addr} {m : Str → Option Value} {news : List (Addr × Obj)} {cn : Str} {cs : Scope} {ccd : Value} {cl : List (Str × Addr)} {pos : Pos}
theorem eLocal {x : Str} {v : Value} {Q : Value → Shared → Prop} (S : St g L m news s.heap) (hv : m x = some v) (h : Q v s)
    (hk : cs.kind = .function := by rfl) (hx : (envX cn cs L a ccd cl).kindOf x = some .local := by rfl) (hd : (x == ("__debug__" : Str)) = false := by decide) :
    wpAny (model pw w) A (eval (.Name x pos) (envX cn cs L a ccd cl)) Q E s := nameX_L S.F hv h hk hx hd
theorem eGlobal {x : Str} {v : Value} {Q : Value → Shared → Prop} (S : St g L m news s.heap) (B : Base w mg mb g) (e : nsIn (K w.params) mainGlobals x = some (some v)) (h : Q v s)
    (hk : cs.kind = .function := by rfl) (hx : (envX cn cs L a ccd cl).kindOf x = some .globalImplicit := by rfl) (hd : (x == ("__debug__" : Str)) = false := by decide) :
    wpAny (model pw w) A (eval (.Name x pos) (envX cn cs L a ccd cl)) Q E s := nameX_K S.F B.X B.T e h hk hx hd
theorem eBuiltin {x : Str} {v : Value} {Q : Value → Shared → Prop} (S : St g L m news s.heap) (B : Base w mg mb g) (e : nsIn (K w.params) mainGlobals x = some none) (hv : bootBuiltins x = some v) (hn : x ≠ "__name__") (h : Q v s)
    (hk : cs.kind = .function := by rfl) (hx : (envX cn cs L a ccd cl).kindOf x = some .globalImplicit := by rfl) (hd : (x == ("__debug__" : Str)) = false := by decide) :
    wpAny (model pw w) A (eval (.Name x pos) (envX cn cs L a ccd cl)) Q E s := nameX_B S.F B.X B.T e hv hn h hk hx hd
theorem sLocal {x : Str} {v : Value} {Q : Unit → Shared → Prop} (S : St g L m news s.heap)
    (h : ∀ h', St g L (fun y => if y = x then some v else m y) news h' → Q () { s with heap := h', toks := s.toks + 1 })
    (hk : cs.kind = .function := by rfl) (hx : (envX cn cs L a ccd cl).kindOf x = some .local := by rfl) : wpAny (model pw w) A (storeName (envX cn cs L a ccd cl) x v) Q E s :=
  storeX_L S.F S.N (fun h' F N => h h' ⟨F, N, S.nd⟩) hk hx
theorem eCall {env : Env} {x : Str} {p : Pos} {args : List Expr} {kws : List Keyword} {Q : Value → Shared → Prop}
    (h : wpAny (model pw w) A (eval (.Name x p) env) (fun f s₁ => wpAny (model pw w) A (callWith pos f [] (backTo pos (starEach args env)) (backToKw pos (keywordEach kws env))) Q E s₁) E s) :
    wpAny (model pw w) A (eval (.Call (.Name x p) args kws pos) env) Q E s := wpAny_bind h
theorem one {x : Sem Value} {Q : List Value → Shared → Prop} (h : wpAny (model pw w) A x (fun v s₁ => Q [v] s₁) E s) : wpAny (model pw w) A (spliced [(false, x)]) Q E s :=
  spliced_cons (wpAny_mono h (fun _ _ q => spliced_nil q) fun _ _ x => x)
end

theorem look_eq {α : Type} {c : Prop} [Decidable c] {v : α} {b : Option α} (n : c) : (if c then some v else b) = some v := if_pos n
theorem look_ne {α : Type} {c : Prop} [Decidable c] {a b : Option α} {u : α} (h : b = some u) (n : ¬ c) : (if c then a else b) = some u := (if_neg n).trans h
theorem upd_eq {m : Str → Option Value} {x : Str} {v : Value} : (fun y => if y = x then some v else m y) x = some v := if_pos rfl
theorem upd_ne {m : Str → Option Value} {x y : Str} {v u : Value} (h : m y = some u) (n : y ≠ x) : (fun y => if y = x then some v else m y) y = some u := (if_neg n).trans h

section
variable {w : World} {A : Around} {E : Value → Shared → Prop} {s : Shared} {env : Env} {pos : Pos}
/-- a while, by what holds at each turn and a measure -/
theorem eWhile {test : Expr} {body : List Stmt} {Q : Flow → Shared → Prop} (I : Nat → Shared → Prop) (n : Nat) (h : I n s)
    (turn : ∀ n s, I n s → wpAny (model pw w) A (isTrue test env (eval test env)) (fun b s₂ => if b then wpAny (model pw w) A (execs body env) (fun f s₃ => match f with | .next | .cont => ∃ m, m < n ∧ I m s₃ | .brk => Q .next s₃ | .ret v => Q (.ret v) s₃) Bot s₂ else Q .next s₂) Bot s) :
    wpAny (model pw w) A (exec (.While test body [] pos) env) Q E s := by
  refine wpAny_While (codeAny_whileLoop (R := fun r s' => match r with | .ok f => Q f s' | .error e => cameBackBy (model pw w) A env E e s') I (fun n s hI => ?_) n h)
  refine wpAny_mono (turn n s hI) (fun b s₂ hb => ?_) fun _ _ x => x.elim
  cases b with
  | true => exact wpAny_mono (show wpAny _ _ _ _ _ _ from hb) (fun f s₃ h₃ => by cases f <;> exact h₃) fun _ _ x => x.elim
  | false => exact wpAny_execs_nil hb
theorem fdiv_two (a b : Nat) : ((a : Int) + (b : Int)).fdiv 2 = (((a + b) / 2 : Nat) : Int) := by
  rw [Int.fdiv_eq_ediv_of_nonneg _ (by decide)]; omega
end

section
variable {w : World} {A : Around} {E : Value → Shared → Prop} {s : Shared} {env : Env} {pos : Pos}
theorem args0 {Q : List Value → Shared → Prop} (h : Q [] s) : wpAny (model pw w) A (spliced (backTo pos (starEach [] env))) Q E s := spliced_nil h
theorem args1 {e : Expr} {Q : List Value → Shared → Prop} (h : wpAny (model pw w) A (eval e env) (fun v s₁ => Q [v] s₁) E s) (he : starEach [e] env = [(false, eval e env)] := by rfl) :
    wpAny (model pw w) A (spliced (backTo pos (starEach [e] env))) Q E s := by rw [he]; exact one h
theorem args2 {e₁ e₂ : Expr} {Q : List Value → Shared → Prop} (h : wpAny (model pw w) A (eval e₁ env) (fun v s₁ => wpAny (model pw w) A (eval e₂ env) (fun u s₂ => Q [v, u] s₂) E s₁) E s)
    (he : starEach [e₁, e₂] env = [(false, eval e₁ env), (false, eval e₂ env)] := by rfl) :
    wpAny (model pw w) A (spliced (backTo pos (starEach [e₁, e₂] env))) Q E s := by
  rw [he]; exact spliced_cons (wpAny_mono h (fun _ _ q => one q) fun _ _ x => x)
theorem args4 {e₁ e₂ e₃ e₄ : Expr} {Q : List Value → Shared → Prop} (h : wpAny (model pw w) A (eval e₁ env) (fun v s₁ => wpAny (model pw w) A (eval e₂ env) (fun u s₂ => wpAny (model pw w) A (eval e₃ env) (fun x s₃ => wpAny (model pw w) A (eval e₄ env) (fun y s₄ => Q [v, u, x, y] s₄) E s₃) E s₂) E s₁) E s)
    (he : starEach [e₁, e₂, e₃, e₄] env = [(false, eval e₁ env), (false, eval e₂ env), (false, eval e₃ env), (false, eval e₄ env)] := by rfl) :
    wpAny (model pw w) A (spliced (backTo pos (starEach [e₁, e₂, e₃, e₄] env))) Q E s := by
  rw [he]
  exact spliced_cons (wpAny_mono h (fun _ _ q => spliced_cons (wpAny_mono q (fun _ _ q => spliced_cons (wpAny_mono q (fun _ _ q => one q) fun _ _ x => x)) fun _ _ x => x)) fun _ _ x => x)
theorem kw0 {Q : List Value → Shared → Prop} (h : Q [] s) : wpAny (model pw w) A (evalAll ((backToKw pos (keywordEach [] env)).map (·.2))) Q E s := wpAny_evalAll_nil h
theorem kw1 {n : Str} {e : Expr} {p : Pos} {Q : List Value → Shared → Prop} (h : wpAny (model pw w) A (eval e env) (fun v s₁ => Q [v] s₁) E s) :
    wpAny (model pw w) A (evalAll ((backToKw pos (keywordEach [⟨some n, e, p⟩] env)).map (·.2))) Q E s :=
  wpAny_evalAll_cons (wpAny_bind (wpAny_mono h (fun v s₁ q => wpAny_bind (wpAny_standAt (wpAny_pure (wpAny_evalAll_nil q)))) fun _ _ x => x))
end

section
variable {w : World} {A : Around} {E : Value → Shared → Prop} {s : Shared} {env : Env} {pos : Pos}
theorem eMeth {o : Expr} {name : Str} {apos : Pos} {args : List Expr} {kws : List Keyword} {pl : Sem Bool} {Q : Value → Shared → Prop}
    (h : wpAny (model pw w) A (eval o env) (fun ov s₁ => wpAny (model pw w) A (getMethod ov name pl) (fun fx s₂ => wpAny (model pw w) A (callWith pos fx.1 fx.2 (backTo pos (starEach args env)) (backToKw pos (keywordEach kws env))) Q E s₂) E s₁) E s)
    (he : eval (.Call (.Attribute o name apos) args kws pos) env = (do
      let ov ← eval o env
      standAt apos.atName
      let (f, first) ← holding [ov] (getMethod ov name pl)
      callWith pos f first (backTo pos (starEach args env)) (backToKw pos (keywordEach kws env))) := by rfl) :
    wpAny (model pw w) A (eval (.Call (.Attribute o name apos) args kws pos) env) Q E s := methodCall_KW h he
/-- a contract's end, taken by the caller -/
theorem call_post {f : Value} {args : List Value} {kw : List (Str × Value)} {own : List (Addr × Obj)} {V : Value → Heap → Prop} {Q : Value → Shared → Prop}
    (h : codeAny (model pw w) A (.call f ⟨args, kw⟩) (Post own s V) s)
    (k : ∀ v h' t, s.heap.objs.size ≤ h'.objs.size → (∀ b o, b ∉ own.map (·.1) → s.heap.get? b = some o → h'.get? b = some o) → V v h' → Q v { s with heap := h', toks := t }) :
    wpAny (model pw w) A (call f args kw) Q E s :=
  call_of (codeAny_mono h fun r s' ⟨v, h', t, e1, e2, hz, hk, hv⟩ => ⟨v, e1, e2 ▸ k v h' t hz hk hv⟩)
end
end
section
variable {w : World} {mg mb : Str → Option Value} {A : Around} {s : Shared} {h₀ : Heap}
theorem noOwn {h₀ h : Heap} : Owns h₀ h [] := ⟨fun p hp => (nomatch hp), List.nodup_nil⟩
/-- `_law_left(word)`: the number that the word reads as, modulo 5 -/
theorem left_spec {x : Str} {t : Tok} {n : Int} (B : Base w mg mb h₀) (hk : Sub h₀ s.heap) (R : Room A 3) (hn : PySem.intText? x = some n) (hl : x.length ≤ 640) :
    codeAny (model pw w) A (.call (.ref 271) ⟨[.str x t], []⟩) (Post [] s fun v _ => ∃ u, v = .int (n.fmod 5) u) s := by
  refine enterK (own := []) (st := stm 16) (f := 271) (binds := [("word", .str x t)]) (by rfl) (by kernel_rfl) (by kernel_rfl) B hk noOwn (Room.mono R (by decide) : Room A 0).depth (BindsTo.of_eq (by rfl)) (by kernel_rfl) ?_
  intro g L h₁ m tk B hz hg S hm eL
  refine wpAny_execs_cons ?_
  refine wpAny_Return_some (wpAny_BinOp ?_)
  refine eCall (eBuiltin (v := .type "int") S B (by kernel_rfl) (by kernel_rfl) (by decide) ?_ (by kernel_rfl) (by kernel_rfl) (by decide))
  refine callWith_val (by rfl) (by rfl) (fun a e => nomatch e) (one (eLocal (v := .str x t) S ((hm _).trans (by rfl)) (wpAny_evalAll_nil ?_) (by kernel_rfl) (by kernel_rfl)))
  refine KIN.call_text hn hl ?_
  refine wpAny_Constant_int ?_
  refine mod_int' (by decide) ?_
  exact S.post eL hg ⟨_, rfl⟩
/-- a text that int() reads -/
def Good (x : Str) : Prop := (∃ n, PySem.intText? x = some n) ∧ x.length ≤ 640
def left (x : Str) : Int := ((PySem.intText? x).getD 0).fmod 5
theorem left_good {x : Str} {t : Tok} (B : Base w mg mb h₀) (hk : Sub h₀ s.heap) (R : Room A 3) (hx : Good x) :
    codeAny (model pw w) A (.call (.ref 271) ⟨[.str x t], []⟩) (Post [] s fun v _ => ∃ u, v = .int (left x) u) s := by
  obtain ⟨⟨n, hn⟩, hl⟩ := hx
  have e : left x = n.fmod 5 := by unfold left; rw [hn]; rfl
  rw [e]
  exact left_spec B hk R hn hl
/-- a list of texts -/
def IsStrs (h : Heap) (l : Addr) (ws : List Str) : Prop := ∃ vs, h.IsList l vs.toArray ∧ StrsAre vs ws
theorem strs_get {vs : List Value} {ws : List Str} (S : StrsAre vs ws) : ∀ (i : Nat) (h : i < ws.length), ∃ t, vs[i]? = some (.str ws[i] t) := by
  induction S with
  | nil => intro i h; cases h
  | cons y t S ih =>
    intro i h
    cases i with
    | zero => exact ⟨t, rfl⟩
    | succ i => exact ih i (Nat.lt_of_succ_lt_succ h)
theorem strs_len {vs : List Value} {ws : List Str} (S : StrsAre vs ws) : vs.length = ws.length := by
  induction S with
  | nil => rfl
  | cons y t S ih => rw [List.length_cons, List.length_cons, ih]
end
end Mine
/-- what a name of the frame holds -/
local macro_rules | `(tactic| walk_at "m.look") => `(tactic| first | with_reducible assumption | with_reducible exact Mine.look_eq rfl | ((with_reducible refine' Mine.look_ne ?lookA ?lookB); (case lookB => decide); (case lookA => walk_at "m.look")))
/-- one plain step -/
local macro_rules | `(tactic| walk_at "m.step") => `(tactic| first
  | ((with_reducible show wpAny _ _ (execs (_ :: _) _) _ _ _); refine wpAny_execs_cons ?_)
  | ((with_reducible show wpAny _ _ (execs [] _) _ _ _); refine wpAny_execs_nil ?_; dsimp only)
  | ((with_reducible show wpAny _ _ (exec (Stmt.Return (some _) _) _) _ _ _); refine wpAny_Return_some ?_)
  | ((with_reducible show wpAny _ _ (exec (Stmt.If _ _ _ _) _) _ _ _); refine wpAny_If ?_)
  | ((with_reducible show wpAny _ _ (exec (Stmt.Assign [Expr.Name _ _] _ _) _) _ _ _); refine wpAny_Assign_Name ?_)
  | ((with_reducible show wpAny _ _ (isTrue (Expr.Compare _ [_] [_] _) _ _) _ _ _); refine wpAny_isTrue_Compare1 ?_)
  | ((with_reducible show wpAny _ _ (eval (Expr.BinOp _ _ _ _) _) _ _ _); refine wpAny_BinOp ?_)
  | ((with_reducible show wpAny _ _ (eval (Expr.Compare _ [_] [_] _) _) _ _ _); refine wpAny_Compare1 ?_)
  | ((with_reducible show wpAny _ _ (eval (Expr.Constant (Const.int _) _ _) _) _ _ _); refine wpAny_Constant_int ?_)
  | ((with_reducible show wpAny _ _ (eval (Expr.Constant (Const.str _) _ _) _) _ _ _); refine Constant_str ?_)
  | ((with_reducible show wpAny _ _ (eval (Expr.Constant Const.none _ _) _) _ _ _); refine wpAny_Constant_none ?_)
  | ((with_reducible show wpAny _ _ (eval (Expr.Constant (Const.bool _) _ _) _) _ _ _); refine wpAny_Constant_bool ?_)
  | ((with_reducible show wpAny _ _ (truthy (Value.bool _)) _ _ _); refine wpAny_truthy_bool ?_)
  | ((with_reducible show wpAny _ _ (eval (Expr.Subscript _ _ _) _) _ _ _); refine Subscript_ ?_)
  | ((with_reducible show wpAny _ _ (eval (Expr.Name _ _) _) _ _ _); refine Mine.eLocal (by assumption) (by walk_at "m.look") ?_ (by kernel_rfl) (by kernel_rfl)))
namespace Mine
section
variable {w : World} {mg mb : Str → Option Value} {A : Around} {s : Shared} {h₀ : Heap}
/-- the place that bisect_right finds -/
structure AtR (ws : List Str) (x : Int) (i : Nat) : Prop where
  le : i ≤ ws.length
  below : ∀ j (h : j < ws.length), j < i → left ws[j] ≤ x
  above : ∀ j (h : j < ws.length), i ≤ j → x < left ws[j]
theorem br_spec {l : Addr} {ws : List Str} {x : Int} {t t1 : Tok} {args : Args} (B : Base w mg mb h₀) (hk : Sub h₀ s.heap) (R : Room A 4) (hl : IsStrs s.heap l ws) (hw : ∀ x ∈ ws, Good x) (hs : ws.Pairwise fun a b => left a ≤ left b) (hn : ws.length ≤ 100)
    (hb : BindsTo s (mkFd "bisect_right" "bisect_right" (stm 4) (.ref 48) (.ref 49) .none (.str "cpy313.bisect" 289) (.ref 55)) args [("a", .ref l), ("x", .int x t), ("lo", .int 0 t1), ("hi", .none), ("key", .ref 271)]) :
    codeAny (model pw w) A (.call (.ref 56) args) (Post [] s fun v _ => ∃ i u, v = .int (i : Nat) u ∧ AtR ws x i) s := by
  refine codeQ fun QQ hQ => ?_
  refine enterK (own := []) (st := stm 4) (f := 56) (by rfl) (by kernel_rfl) (by kernel_rfl) B hk noOwn (Room.mono R (by decide) : Room A 0).depth hb (by kernel_rfl) ?_
  intro g L h₁ m tk B hz hg S hm eL
  have ma : m "a" = some (.ref l) := (hm _).trans rfl
  have mx : m "x" = some (.int x t) := (hm _).trans rfl
  have mlo : m "lo" = some (.int 0 t1) := (hm _).trans rfl
  have mhi : m "hi" = some .none := (hm _).trans rfl
  have mk : m "key" = some (.ref 271) := (hm _).trans rfl
  clear hm
  obtain ⟨vs, hl, hv⟩ := hl
  have hl1 : g.IsList l vs.toArray := hl.at fun o e => hg l o (by simp) e
  have hlen : vs.toArray.size = ws.length := by simp [strs_len hv]
  have R' : ∀ env, Room (A.deeper env) 3 := fun env => Room.deeper R
  refine wpAny_execs_cons ?_
  repeat' walk_at "m.step"
  refine lt_int ?_
  repeat' walk_at "m.step"
  rw [if_neg (by decide)]
  repeat' walk_at "m.step"
  -- hi is None
  refine wpAny_is_self (by rfl) ?_
  repeat' walk_at "m.step"
  rw [if_pos rfl]
  repeat' walk_at "m.step"
  refine eCall (eBuiltin (v := .builtin "len") S B (by kernel_rfl) (by kernel_rfl) (by decide) ?_ (by kernel_rfl) (by kernel_rfl))
  refine callWith_val (by rfl) (by rfl) (fun a e => nomatch e) (args1 ?_)
  walk_at "m.step"
  refine kw0 (call_len_list (hl1.at fun o e => S.F.keep l o e) (by rw [hlen]; omega) ?_)
  refine sLocal S (fun h2 S2 => ?_) (by kernel_rfl) (by kernel_rfl)
  dsimp only
  repeat' walk_at "m.step"
  -- key is None
  refine wpAny_is_other (by rfl) (fun e => nomatch e) ?_
  repeat' walk_at "m.step"
  rw [if_neg (by decide)]
  repeat' walk_at "m.step"
  refine eWhile (fun k s' => ∃ (h' : Heap) (t' : Nat) (m : Str → Option Value) (lo hi : Nat) (tl th : Tok), s' = { s with heap := h', toks := t' } ∧ St g L m [] h' ∧ m "a" = some (.ref l) ∧ m "x" = some (.int x t) ∧ m "lo" = some (.int lo tl) ∧ m "hi" = some (.int hi th) ∧ m "key" = some (.ref 271) ∧
      lo ≤ hi ∧ hi ≤ ws.length ∧ (∀ j (h : j < ws.length), j < lo → left ws[j] ≤ x) ∧ (∀ j (h : j < ws.length), hi ≤ j → x < left ws[j]) ∧ k = hi - lo) ws.length
    ⟨h2, _, _, 0, ws.length, t1, _, rfl, S2, by walk_at "m.look", by walk_at "m.look", upd_ne mlo (by decide), by rw [← hlen]; exact upd_eq, by walk_at "m.look", Nat.zero_le _, Nat.le_refl _, (fun j h q => absurd q (Nat.not_lt_zero _)), (fun j h q => absurd h (Nat.not_lt.mpr q)), rfl⟩ ?_
  rintro k s' ⟨h3, t3, m, lo, hi, tl, th, rfl, S3, ma, mx, mlo, mhi, mk, hle, hhi, hb, ha, rfl⟩
  repeat' walk_at "m.step"
  refine lt_int ?_
  repeat' walk_at "m.step"
  by_cases hlt : lo < hi
  · rw [if_pos (by simp; omega)]
    refine wpAny_execs_cons ?_
    walk_at "m.step"
    refine wpAny_BinOp ?_
    walk_at "m.step"
    walk_at "m.step"
    walk_at "m.step"
    refine add_int ?_
    walk_at "m.step"
    refine floordiv_int (by decide) ?_ (.inl (PyProof.noPylong_small (by omega)))
    rw [fdiv_two]
    refine sLocal S3 (fun h4 S4 => ?_) (by kernel_rfl) (by kernel_rfl)
    dsimp only
    repeat' walk_at "m.step"
    refine eCall ?_
    walk_at "m.step"
    refine callWith_fn (by rfl) (by rfl) (args1 ?_)
    repeat' walk_at "m.step"
    have hm2 : (lo + hi) / 2 < ws.length := by omega
    obtain ⟨tw, hget⟩ := strs_get hv _ hm2
    refine item_litK (k := (((lo + hi) / 2 : Nat) : Int)) (hl1.at fun o e => S4.F.keep l o e) (by omega) (by omega) (by rw [Int.toNat_natCast]; exact hget) ?_ (by with_unfolding_all rfl)
    refine kw0 ⟨⟨271, _, _, rfl, S4.F.keep _ _ (B.X _ _ (by rfl : (K w.params).lookup 271 = some (ob271 w.params))), rfl⟩, ?_⟩
    refine call_of ?_
    refine codeAny_mono (left_good (B.keeps S4.F.keep) (fun _ _ e => e) (R' _) (hw _ (List.getElem_mem hm2))) ?_
    rintro r s' ⟨v, h5, t5, rfl, rfl, hsz, hk5, u, rfl⟩
    refine ⟨_, rfl, ?_⟩
    have S5 := S4.keeps (fun b o e => hk5 b o (by simp) e)
    refine lt_int ?_
    repeat' walk_at "m.step"
    by_cases hlx : x < left (ws[(lo + hi) / 2])
    · rw [if_pos (by simpa using hlx)]
      repeat' walk_at "m.step"
      refine sLocal S5 (fun h6 S6 => ?_) (by kernel_rfl) (by kernel_rfl)
      refine wpAny_execs_nil (wpAny_execs_nil ?_)
      refine ⟨(lo + hi) / 2 - lo, by omega, h6, _, _, lo, (lo + hi) / 2, _, _, rfl, S6, by walk_at "m.look", by walk_at "m.look", by walk_at "m.look", by walk_at "m.look", by walk_at "m.look", by omega, by omega, hb, fun j h q => ?_, rfl⟩
      rcases Nat.lt_or_ge ((lo + hi) / 2) j with q1 | q1
      · have := List.pairwise_iff_getElem.mp hs _ _ hm2 h q1
        omega
      · have e : j = (lo + hi) / 2 := by omega
        subst e; exact hlx
    · rw [if_neg (by simpa using hlx)]
      repeat' walk_at "m.step"
      refine add_int ?_
      refine sLocal S5 (fun h6 S6 => ?_) (by kernel_rfl) (by kernel_rfl)
      refine wpAny_execs_nil (wpAny_execs_nil ?_)
      refine ⟨hi - ((lo + hi) / 2 + 1), by omega, h6, _, _, (lo + hi) / 2 + 1, hi, _, _, rfl, S6, by walk_at "m.look", by walk_at "m.look", upd_eq, by walk_at "m.look", by walk_at "m.look", by omega, by omega, fun j h q => ?_, ha, rfl⟩
      rcases Nat.lt_or_ge j ((lo + hi) / 2) with q1 | q1
      · have := List.pairwise_iff_getElem.mp hs _ _ h hm2 q1
        omega
      · have e : j = (lo + hi) / 2 := by omega
        subst e; omega
  · rw [if_neg (by simp; omega)]
    dsimp only
    repeat' walk_at "m.step"
    have e : lo = hi := by omega
    subst e
    exact hQ _ _ (S3.post eL hg ⟨lo, tl, rfl, hhi, hb, ha⟩)
/-- the place that bisect_left finds -/
structure AtL (ws : List Str) (x : Int) (i : Nat) : Prop where
  le : i ≤ ws.length
  below : ∀ j (h : j < ws.length), j < i → left ws[j] < x
  above : ∀ j (h : j < ws.length), i ≤ j → x ≤ left ws[j]
theorem bl_spec {l : Addr} {ws : List Str} {x : Int} {t t1 : Tok} {args : Args} (B : Base w mg mb h₀) (hk : Sub h₀ s.heap) (R : Room A 4) (hl : IsStrs s.heap l ws) (hw : ∀ x ∈ ws, Good x) (hs : ws.Pairwise fun a b => left a ≤ left b) (hn : ws.length ≤ 100)
    (hb : BindsTo s (mkFd "bisect_left" "bisect_left" (stm 5) (.ref 57) (.ref 58) .none (.str "cpy313.bisect" 289) (.ref 64)) args [("a", .ref l), ("x", .int x t), ("lo", .int 0 t1), ("hi", .none), ("key", .ref 271)]) :
    codeAny (model pw w) A (.call (.ref 65) args) (Post [] s fun v _ => ∃ i u, v = .int (i : Nat) u ∧ AtL ws x i) s := by
  refine codeQ fun QQ hQ => ?_
  refine enterK (own := []) (st := stm 5) (f := 65) (by rfl) (by kernel_rfl) (by kernel_rfl) B hk noOwn (Room.mono R (by decide) : Room A 0).depth hb (by kernel_rfl) ?_
  intro g L h₁ m tk B hz hg S hm eL
  have ma : m "a" = some (.ref l) := (hm _).trans rfl
  have mx : m "x" = some (.int x t) := (hm _).trans rfl
  have mlo : m "lo" = some (.int 0 t1) := (hm _).trans rfl
  have mhi : m "hi" = some .none := (hm _).trans rfl
  have mk : m "key" = some (.ref 271) := (hm _).trans rfl
  clear hm
  obtain ⟨vs, hl, hv⟩ := hl
  have hl1 : g.IsList l vs.toArray := hl.at fun o e => hg l o (by simp) e
  have hlen : vs.toArray.size = ws.length := by simp [strs_len hv]
  have R' : ∀ env, Room (A.deeper env) 3 := fun env => Room.deeper R
  refine wpAny_execs_cons ?_
  repeat' walk_at "m.step"
  refine lt_int ?_
  repeat' walk_at "m.step"
  rw [if_neg (by decide)]
  repeat' walk_at "m.step"
  -- hi is None
  refine wpAny_is_self (by rfl) ?_
  repeat' walk_at "m.step"
  rw [if_pos rfl]
  repeat' walk_at "m.step"
  refine eCall (eBuiltin (v := .builtin "len") S B (by kernel_rfl) (by kernel_rfl) (by decide) ?_ (by kernel_rfl) (by kernel_rfl))
  refine callWith_val (by rfl) (by rfl) (fun a e => nomatch e) (args1 ?_)
  walk_at "m.step"
  refine kw0 (call_len_list (hl1.at fun o e => S.F.keep l o e) (by rw [hlen]; omega) ?_)
  refine sLocal S (fun h2 S2 => ?_) (by kernel_rfl) (by kernel_rfl)
  dsimp only
  repeat' walk_at "m.step"
  -- key is None
  refine wpAny_is_other (by rfl) (fun e => nomatch e) ?_
  repeat' walk_at "m.step"
  rw [if_neg (by decide)]
  repeat' walk_at "m.step"
  refine eWhile (fun k s' => ∃ (h' : Heap) (t' : Nat) (m : Str → Option Value) (lo hi : Nat) (tl th : Tok), s' = { s with heap := h', toks := t' } ∧ St g L m [] h' ∧ m "a" = some (.ref l) ∧ m "x" = some (.int x t) ∧ m "lo" = some (.int lo tl) ∧ m "hi" = some (.int hi th) ∧ m "key" = some (.ref 271) ∧
      lo ≤ hi ∧ hi ≤ ws.length ∧ (∀ j (h : j < ws.length), j < lo → left ws[j] < x) ∧ (∀ j (h : j < ws.length), hi ≤ j → x ≤ left ws[j]) ∧ k = hi - lo) ws.length
    ⟨h2, _, _, 0, ws.length, t1, _, rfl, S2, by walk_at "m.look", by walk_at "m.look", upd_ne mlo (by decide), by rw [← hlen]; exact upd_eq, by walk_at "m.look", Nat.zero_le _, Nat.le_refl _, (fun j h q => absurd q (Nat.not_lt_zero _)), (fun j h q => absurd h (Nat.not_lt.mpr q)), rfl⟩ ?_
  rintro k s' ⟨h3, t3, m, lo, hi, tl, th, rfl, S3, ma, mx, mlo, mhi, mk, hle, hhi, hb, ha, rfl⟩
  repeat' walk_at "m.step"
  refine lt_int ?_
  repeat' walk_at "m.step"
  by_cases hlt : lo < hi
  · rw [if_pos (by simp; omega)]
    refine wpAny_execs_cons ?_
    walk_at "m.step"
    refine wpAny_BinOp ?_
    walk_at "m.step"
    walk_at "m.step"
    walk_at "m.step"
    refine add_int ?_
    walk_at "m.step"
    refine floordiv_int (by decide) ?_ (.inl (PyProof.noPylong_small (by omega)))
    rw [fdiv_two]
    refine sLocal S3 (fun h4 S4 => ?_) (by kernel_rfl) (by kernel_rfl)
    dsimp only
    repeat' walk_at "m.step"
    refine eCall ?_
    walk_at "m.step"
    refine callWith_fn (by rfl) (by rfl) (args1 ?_)
    repeat' walk_at "m.step"
    have hm2 : (lo + hi) / 2 < ws.length := by omega
    obtain ⟨tw, hget⟩ := strs_get hv _ hm2
    refine item_litK (k := (((lo + hi) / 2 : Nat) : Int)) (hl1.at fun o e => S4.F.keep l o e) (by omega) (by omega) (by rw [Int.toNat_natCast]; exact hget) ?_ (by with_unfolding_all rfl)
    refine kw0 ⟨⟨271, _, _, rfl, S4.F.keep _ _ (B.X _ _ (by rfl : (K w.params).lookup 271 = some (ob271 w.params))), rfl⟩, ?_⟩
    refine call_of ?_
    refine codeAny_mono (left_good (B.keeps S4.F.keep) (fun _ _ e => e) (R' _) (hw _ (List.getElem_mem hm2))) ?_
    rintro r s' ⟨v, h5, t5, rfl, rfl, hsz, hk5, u, rfl⟩
    refine ⟨_, rfl, ?_⟩
    have S5 := S4.keeps (fun b o e => hk5 b o (by simp) e)
    walk_at "m.step"
    refine lt_int ?_
    repeat' walk_at "m.step"
    by_cases hlx : left (ws[(lo + hi) / 2]) < x
    · rw [if_pos (by simpa using hlx)]
      repeat' walk_at "m.step"
      refine add_int ?_
      refine sLocal S5 (fun h6 S6 => ?_) (by kernel_rfl) (by kernel_rfl)
      refine wpAny_execs_nil (wpAny_execs_nil ?_)
      refine ⟨hi - ((lo + hi) / 2 + 1), by omega, h6, _, _, (lo + hi) / 2 + 1, hi, _, _, rfl, S6, by walk_at "m.look", by walk_at "m.look", upd_eq, by walk_at "m.look", by walk_at "m.look", by omega, by omega, fun j h q => ?_, ha, rfl⟩
      rcases Nat.lt_or_ge j ((lo + hi) / 2) with q1 | q1
      · have := List.pairwise_iff_getElem.mp hs _ _ h hm2 q1
        omega
      · have e : j = (lo + hi) / 2 := by omega
        subst e; exact hlx
    · rw [if_neg (by simpa using hlx)]
      repeat' walk_at "m.step"
      refine sLocal S5 (fun h6 S6 => ?_) (by kernel_rfl) (by kernel_rfl)
      refine wpAny_execs_nil (wpAny_execs_nil ?_)
      refine ⟨(lo + hi) / 2 - lo, by omega, h6, _, _, lo, (lo + hi) / 2, _, _, rfl, S6, by walk_at "m.look", by walk_at "m.look", by walk_at "m.look", by walk_at "m.look", by walk_at "m.look", by omega, by omega, hb, fun j h q => ?_, rfl⟩
      rcases Nat.lt_or_ge ((lo + hi) / 2) j with q1 | q1
      · have := List.pairwise_iff_getElem.mp hs _ _ hm2 h q1
        omega
      · have e : j = (lo + hi) / 2 := by omega
        subst e; omega
  · rw [if_neg (by simp; omega)]
    dsimp only
    repeat' walk_at "m.step"
    have e : lo = hi := by omega
    subst e
    exact hQ _ _ (S3.post eL hg ⟨lo, tl, rfl, hhi, hb, ha⟩)
end
section
variable {w : World} {mg mb : Str → Option Value} {A : Around} {s : Shared} {h₀ : Heap}
theorem strs_take {vs : List Value} {ws : List Str} (S : StrsAre vs ws) : ∀ i, StrsAre (vs.take i) (ws.take i) := by
  induction S with
  | nil => intro i; simp; exact .nil
  | cons y t S ih =>
    intro i
    cases i with
    | zero => exact .nil
    | succ i => exact .cons y t (ih i)
theorem strs_drop {vs : List Value} {ws : List Str} (S : StrsAre vs ws) : ∀ i, StrsAre (vs.drop i) (ws.drop i) := by
  induction S with
  | nil => intro i; simp; exact .nil
  | cons y t S ih =>
    intro i
    cases i with
    | zero => exact .cons y t S
    | succ i => exact ih i
theorem strs_append {vs us : List Value} {ws xs : List Str} (S : StrsAre vs ws) (T : StrsAre us xs) : StrsAre (vs ++ us) (ws ++ xs) := by
  induction S with
  | nil => exact T
  | cons y t S ih => exact .cons y t ih
theorem strs_ins {vs : List Value} {ws : List Str} (S : StrsAre vs ws) (i : Nat) (x : Str) (t : Tok) (hi : i ≤ ws.length) : StrsAre (kl_ins vs (i : Int) (.str x t)) (ws.take i ++ x :: ws.drop i) := by
  have e : kl_ins vs (i : Int) (.str x t) = vs.take i ++ .str x t :: vs.drop i := by
    unfold kl_ins
    have h1 : ¬ ((i : Int) < 0) := by omega
    have h2 : min (i : Int).toNat vs.length = i := by rw [strs_len S, Int.toNat_natCast]; omega
    simp only [h1, if_false, h2]
  rw [e]
  exact strs_append (strs_take S i) (.cons x t (strs_drop S i))
theorem insort_spec {l : Addr} {vs : List Value} {ws : List Str} {n : Nat} {x : Str} {t : Tok} (B : Base w mg mb h₀) (hk : Sub h₀ s.heap) (R : Room A 5) (O : Owns h₀ s.heap [(l, listOf vs.toArray n)]) (hv : StrsAre vs ws) (hw : ∀ x ∈ ws, Good x) (hs : ws.Pairwise fun a b => left a ≤ left b) (hn : ws.length ≤ 100) (hx : Good x) :
    codeAny (model pw w) A (.call (.ref 47) ⟨[.ref l, .str x t], [("key", .ref 271)]⟩) (Post [(l, listOf vs.toArray n)] s fun v h' => v = .none ∧ ∃ i vs' n', h'.get? l = some (listOf vs'.toArray n') ∧ StrsAre vs' (ws.take i ++ x :: ws.drop i) ∧ AtR ws (left x) i) s := by
  refine enterK (st := stm 3) (f := 47) (binds := [("a", .ref l), ("x", .str x t), ("lo", .int 0 291), ("hi", .none), ("key", .ref 271)]) (by rfl) (by kernel_rfl) (by kernel_rfl) B hk O (Room.mono R (by decide) : Room A 0).depth
    (binds_K (B.X.keeps hk) rfl (by rfl : (K w.params).lookup 39 = some (ob39 w.params)) rfl rfl rfl) (by kernel_rfl) ?_
  intro g L h₁ m tk B hz hg S hm eL
  have ma : m "a" = some (.ref l) := (hm _).trans rfl
  have mx : m "x" = some (.str x t) := (hm _).trans rfl
  have mlo : m "lo" = some (.int 0 291) := (hm _).trans rfl
  have mhi : m "hi" = some .none := (hm _).trans rfl
  have mk : m "key" = some (.ref 271) := (hm _).trans rfl
  clear hm
  refine wpAny_execs_cons ?_
  repeat' walk_at "m.step"
  refine wpAny_is_other (by rfl) (fun e => nomatch e) ?_
  repeat' walk_at "m.step"
  rw [if_neg (by decide)]
  repeat' walk_at "m.step"
  have R' : ∀ env, Room (A.deeper env) 4 := fun env => Room.deeper R
  refine eCall (eGlobal S B (by rfl : nsIn (K w.params) mainGlobals "bisect_right" = some (some (.ref 56))) ?_ (by kernel_rfl) (by kernel_rfl))
  refine callWith_fn (by rfl) (by rfl) (args4 ?_)
  walk_at "m.step"
  refine eCall ?_
  walk_at "m.step"
  refine callWith_fn (by rfl) (by rfl) (args1 ?_)
  walk_at "m.step"
  refine kw0 ⟨⟨271, _, _, rfl, S.F.keep _ _ (B.X _ _ (by rfl : (K w.params).lookup 271 = some (ob271 w.params))), rfl⟩, ?_⟩
  refine call_post (left_good B S.F.keep (Room.mono (R' _) (by decide)) hx) ?_
  rintro v h5 t5 hz5 hk5 ⟨u, rfl⟩
  have S5 := S.keeps (fun b o e => hk5 b o (by simp) e)
  walk_at "m.step"
  walk_at "m.step"
  refine kw1 ?_
  walk_at "m.step"
  refine ⟨⟨56, _, _, rfl, S5.F.keep _ _ (B.X _ _ (by rfl : (K w.params).lookup 56 = some (ob56 w.params))), rfl⟩, ?_⟩
  have hl5 := (S5.N (l, listOf vs.toArray n) (.head _)).1
  refine call_post (br_spec (l := l) (x := left x) (t := u) (t1 := 291) B S5.F.keep (R' _) ⟨vs, ⟨_, hl5, rfl, n, rfl⟩, hv⟩ hw hs hn (binds_K (B.X.keeps S5.F.keep) rfl (by rfl : (K w.params).lookup 48 = some (ob48 w.params)) rfl rfl rfl)) ?_
  rintro v h6 t6 hz6 hk6 ⟨i, u2, rfl, hi⟩
  have S6 := S5.keeps (fun b o e => hk6 b o (by simp) e)
  refine sLocal S6 (fun h7 S7 => ?_) (by kernel_rfl) (by kernel_rfl)
  refine wpAny_execs_nil ?_
  dsimp only
  walk_at "m.step"
  refine wpAny_Expr (eMeth ?_)
  walk_at "m.step"
  refine listMethod_K S7.N (.head _) PySem.F.slot_list_insert PySem.F.type_list_insert ?_
  refine callWith_val (by rfl) (by rfl) (fun a e => nomatch e) (args2 ?_)
  walk_at "m.step"
  walk_at "m.step"
  refine kw0 ?_
  have hile := hi.le
  have hvl := strs_len hv
  refine kl_insert S7.F S7.N (by simp [Builtin.List.listFitsIndex]; omega) rfl (.head (by simp)) (by simp [sizeLine]; omega) ?_
  intro h8 F8 N8
  refine wpAny_execs_nil ?_
  exact St.post (m := _) (news := _) ⟨F8, N8, S7.nd⟩ eL hg ⟨rfl, i, _, _, (N8 _ (.head _)).1, strs_ins hv i x t hile, hi⟩
end
section
theorem plain_re : PlainAttrs "re.Pattern" :=
  ⟨⟨"object.__getattribute__", by rw [typeLookup_type, builtinLookup_eq_fast]; kernel_rfl, by decide +kernel⟩, by rw [typeLookup_type, builtinLookup_eq_fast]; kernel_rfl⟩
theorem slot_search : Slot "re.Pattern" "search" "re.Pattern.search" :=
  .of (owner := "re.Pattern") (n := "search") (by rw [typeLookup_type, builtinLookup_eq_fast]; kernel_rfl) (by decide +kernel) (by decide +kernel) (by decide +kernel)
    (by first | exact .inl (by decide +kernel) | exact .inr (by decide +kernel)) (by rw [isSubtype_type]; kernel_rfl)
theorem entry_search : entryFor table "re.Pattern.search" = some Builtin.«re.Pattern.search» := entryFor_of_tree (by kernel_rfl)
theorem type_search : typeOf (.builtin "re.Pattern.search") = pure (.type "method_descriptor") := by show builtinType _ = _; rw [builtinType_eq_fast]; kernel_rfl
theorem args_search (a b : Value) : argsOk "re.Pattern.search" ⟨[a, b], []⟩ := by unfold argsOk; kernel_rfl
def isMiss : Option Fin → Bool
  | some (.done (.ret .none)) => true
  | _ => false
def miss (P : Params) (t : Tok) (re : Addr) (x : Str) : Bool := isMiss (peek (K P) ⟨pw, P⟩ (Builtin.«re.Pattern.search» ⟨[.ref re, .str x t], []⟩))

def ext (k : Nat) (x : Str) : List Str := [x ++ Str.ofString (toString (k : Int)), x ++ Str.ofString (toString ((k + 4 : Nat) : Int))]
def paths : Nat → List Str
  | 0 => ["8"]
  | k + 1 => (paths k).flatMap (ext k)
def names : List Str := ["rest-0", "rest-1", "rest-2", "rest-3", "rest-4"]
/-- the signs that the two patterns look for do not stand in it -/
def Nam (x : Str) : Prop := ∀ P t, miss P t 117 x = true
def Val (x : Str) : Prop := ∀ P t, miss P t 122 x = true
theorem nam_all (P : Params) (t : Tok) : names.all (miss P t 117) = true := by kernel_rfl
theorem val_all (P : Params) (t : Tok) : (paths 0 ++ paths 1 ++ paths 2 ++ paths 3 ++ paths 4).all (miss P t 122) = true := by kernel_rfl
theorem nam_of {x : Str} (h : x ∈ names) : Nam x := fun P t => List.all_eq_true.mp (nam_all P t) x h
theorem val_of {x : Str} {k : Nat} (hk : k ≤ 4) (h : x ∈ paths k) : Val x := fun P t => List.all_eq_true.mp (val_all P t) x (by
  simp only [List.mem_append]
  have : k = 0 ∨ k = 1 ∨ k = 2 ∨ k = 3 ∨ k = 4 := by omega
  rcases this with rfl | rfl | rfl | rfl | rfl <;> simp [h])
theorem miss_looks {P : Params} {t : Tok} {re : Addr} {x : Str} (h : miss P t re x = true) : peek (K P) ⟨pw, P⟩ (Builtin.«re.Pattern.search» ⟨[.ref re, .str x t], []⟩) = some (.done (.ret .none)) := by
  unfold miss isMiss at h
  split at h
  · assumption
  · cases h
variable {w : World} {mg mb : Str → Option Value} {A : Around} {s : Shared} {h₀ : Heap} {E : Value → Shared → Prop}
theorem call_search {re : Addr} {x : Str} {t : Tok} {Q : Value → Shared → Prop} (X : (K w.params).In s.heap) (hT : s.TypeIs (.ref re) "re.Pattern") (h : miss w.params t re x = true) (q : Q .none s) :
    wpAny (model pw w) A (call (.builtin "re.Pattern.search") [.ref re, .str x t]) Q E s :=
  wpAny_call (codeAny_call_builtin slot_search.plain entry_search (slot_search.check _ _ _ _ _ _ _ _ hT (args_search _ _) ((Looks.of_peek (M := model pw w) X (miss_looks h)).here q)))
end
section
variable {w : World} {mg mb : Str → Option Value} {A : Around} {s : Shared} {h₀ : Heap}
theorem conv_spec {hx : Addr} {x : Str} {t : Tok} {b : Bool} (B : Base w mg mb h₀) (hk : Sub h₀ s.heap) (R : Room A 2) (h : if b then Nam x else Val x) :
    codeAny (model pw w) A (.call (.ref 152) ⟨[.ref hx, .str x t], [("name", .bool b)]⟩) (Post [] s fun v _ => v = .str x t) s := by
  refine enterK (own := []) (st := stmIn 13 1) (f := 152) (binds := [("self", .ref hx), ("value", .str x t), ("name", .bool b)]) (by rfl) (by kernel_rfl) (by kernel_rfl) B hk noOwn (Room.mono R (by decide) : Room A 0).depth
    (BindsTo.of_eq (by rfl)) (by kernel_rfl) ?_
  intro g L h₁ m tk B hz hg S hm eL
  have mx : m "value" = some (.str x t) := (hm _).trans rfl
  have mn : m "name" = some (.bool b) := (hm _).trans rfl
  clear hm
  refine wpAny_execs_cons ?_
  repeat' walk_at "m.step"
  refine eCall (eBuiltin (v := .type "type") S B (by rfl) (by kernel_rfl) (by decide) ?_ (by kernel_rfl) (by kernel_rfl))
  refine callWith_val (by rfl) (by rfl) (fun a e => nomatch e) (args1 ?_)
  walk_at "m.step"
  refine kw0 (call_type_of (Tx := "str") rfl (by decide) ?_)
  refine eBuiltin (v := .type "str") S B (by rfl) (by kernel_rfl) (by decide) ?_ (by kernel_rfl) (by kernel_rfl)
  refine wpAny_is_self (by rfl) ?_
  repeat' walk_at "m.step"
  rw [if_pos rfl]
  refine wpAny_execs_cons ?_
  walk_at "m.step"
  refine cut (fun v s' => ∃ re vs, v = .ref re ∧ s' = { s with heap := h₁, toks := tk } ∧ (K w.params).lookup re = some ⟨.type "re.Pattern", none, .fields vs, #[]⟩ ∧ miss w.params t re x = true) ?_ ?_
  · refine wpAny_IfExp (wpAny_isTrue_value ?_)
    walk_at "m.step"
    walk_at "m.step"
    cases b with
    | true =>
      rw [if_pos rfl]
      refine eGlobal S B (by rfl : nsIn (K w.params) mainGlobals "_name_disallowed_re" = some (some (.ref 117))) ?_ (by kernel_rfl) (by kernel_rfl)
      exact ⟨117, _, rfl, rfl, rfl, h _ _⟩
    | false =>
      rw [if_neg Bool.false_ne_true]
      refine eGlobal S B (by rfl : nsIn (K w.params) mainGlobals "_value_disallowed_re" = some (some (.ref 122))) ?_ (by kernel_rfl) (by kernel_rfl)
      exact ⟨122, _, rfl, rfl, rfl, h _ _⟩
  rintro v s' ⟨re, vs, rfl, rfl, hre, hmiss⟩
  refine sLocal S (fun h2 S2 => ?_) (by kernel_rfl) (by kernel_rfl)
  dsimp only
  walk_at "m.step"
  walk_at "m.step"
  have hre2 := S2.F.keep _ _ (B.X _ _ hre)
  have hT : ({ s with heap := h2, toks := tk + 1 } : Shared).TypeIs (.ref re) "re.Pattern" := ⟨_, hre2, rfl⟩
  refine wpAny_isTrue_value (eMeth ?_)
  walk_at "m.step"
  refine getMethod_builtin hT plain_re slot_search type_search (fun a e => by cases e; exact ⟨_, hre2, rfl⟩) ?_
  refine callWith_val (by rfl) (by rfl) (fun a e => nomatch e) (args1 ?_)
  walk_at "m.step"
  refine kw0 (call_search (B.X.keeps S2.F.keep) hT hmiss ?_)
  refine truthy_none ?_
  rw [if_neg Bool.false_ne_true]
  repeat' walk_at "m.step"
  exact S2.post eL hg rfl
end
section
section
variable {w : World} {A : Around} {E : Value → Shared → Prop} {s : Shared} {env : Env} {pos : Pos} {g : Heap} {L : Addr} {m : Str → Option Value} {news : List (Addr × Obj)}
theorem St.setHead {h h' : Heap} {a : Addr} {o o' : Obj} (S : St g L m ((a, o) :: news) h) (hs : Heap.SameBut a h h') (ho : h'.get? a = some o') : St g L m ((a, o') :: news) h' := by
  have A := S.N (a, o) (.head _)
  have nd := S.nd
  rw [List.map_cons, List.nodup_cons] at nd
  refine ⟨⟨S.F.ns.sameBut hs (Ne.symm A.2.1), fun b ob e => (hs.2 b (fun q => ?_)).trans (S.F.keep b ob e), S.F.above⟩, fun p hp => ?_, by rw [List.map_cons]; exact List.nodup_cons.mpr nd⟩
  · rw [q, A.2.2] at e; cases e
  · rcases List.mem_cons.mp hp with rfl | hp
    · exact ⟨ho, A.2⟩
    · have P := S.N p (.tail _ hp)
      refine ⟨(hs.2 p.1 (fun q => nd.1 ?_)).trans P.1, P.2⟩
      have hm : p.1 ∈ news.map (·.1) := List.mem_map_of_mem hp
      rwa [show p.1 = a from q] at hm
theorem St.tail {h : Heap} {p : Addr × Obj} (S : St g L m (p :: news) h) : St g L m news h :=
  S.perm (fun q hq => .tail _ hq) (by have := S.nd; rw [List.map_cons, List.nodup_cons] at this; exact this.2)
theorem St.getHead {h : Heap} {a : Addr} {o : Obj} (S : St g L m ((a, o) :: news) h) : h.get? a = some o := (S.N (a, o) (.head _)).1
/-- the heap has changed at one place alone that the ledger does not name -/
theorem St.off {h h' : Heap} {a : Addr} {o : Obj} (S : St g L m ((a, o) :: news) h) (hs : Heap.ExtBut a h h') : St g L m news h' := by
  have A := S.N (a, o) (.head _)
  have nd := S.nd
  rw [List.map_cons, List.nodup_cons] at nd
  refine ⟨⟨S.F.ns.extBut hs (Ne.symm A.2.1), fun b ob e => hs b ob (fun q => ?_) (S.F.keep b ob e), S.F.above⟩, fun p hp => ?_, nd.2⟩
  · rw [q, A.2.2] at e; cases e
  · have P := S.N p (.tail _ hp)
    exact ⟨hs _ _ (fun q => nd.1 (by
      have hm : p.1 ∈ news.map (·.1) := List.mem_map_of_mem hp
      rwa [show p.1 = a from q] at hm)) P.1, P.2⟩

/-- a for over a list that stays as it is: an invariant over the turn's number, the frame's names and the ledger -/
theorem eForList {target : Expr} {body : List Stmt} {Q : Flow → Shared → Prop} {l : Addr} {items : Array Value} (hh : A.handled = none) (S : St g L m news s.heap) (hl : s.heap.IsList l items)
    (J : Nat → (Str → Option Value) → List (Addr × Obj) → Prop) (hJ : J 0 m news)
    (hlist : ∀ i m₁ news₁ h o it, J i m₁ news₁ → St g L m₁ ((it, o) :: news₁) h → h.IsList l items)
    (hlet : ∀ (it : Addr) (v : Value) (i : Nat) (s₁ : Shared) (P : Unit → Shared → Prop), items[i]? = some v → s₁.heap.IsListIter it l (i + 1) → P () s₁ → wpAny (model pw w) A (letOwnedTupleGo target (.ref it) v) P Bot s₁)
    (turn : ∀ i v it o m₁ news₁ h t, items[i]? = some v → J i m₁ news₁ → St g L m₁ ((it, o) :: news₁) h →
      wpAny (model pw w) A (assign target env v) (fun _ s₂ => wpAny (model pw w) A (execs body env) (fun f s₃ => match f with
        | .next | .cont => ∃ m₂ news₂ h' t', s₃ = { s with heap := h', toks := t' } ∧ J (i + 1) m₂ news₂ ∧ St g L m₂ ((it, o) :: news₂) h'
        | .brk => Q .next s₃
        | .ret v => Q (.ret v) s₃) Bot s₂) Bot { s with heap := h, toks := t })
    (done : ∀ m₁ news₁ h t, J items.size m₁ news₁ → St g L m₁ news₁ h → Q .next { s with heap := h, toks := t }) :
    wpAny (model pw w) A (pyIter (.ref l)) (fun it s₂ => codeAny (model pw w) A (.forLoop target it body [] env) (fun r s' => match r with | .ok f => Q f s' | .error e => cameBackBy (model pw w) A env E e s') s₂) E s := by
  refine wpAny_pyIter_list hl ?_
  have S0 : St g L m ((s.heap.objs.size, { cls := .type "list_iterator", data := .fields #[.ref l, .int 0 0] }) :: news) (s.heap.push { cls := .type "list_iterator", data := .fields #[.ref l, .int 0 0] }) :=
    S.add (fun b o e => Heap.get?_push_of_some _ e) (Heap.get?_push_size _ rfl) (Nat.le_refl _)
  generalize hit : s.heap.objs.size = it at S0 ⊢
  refine codeAny_forLoop_any (R := fun r s' => match r with | .ok f => Q f s' | .error e => cameBackBy (model pw w) A env E e s')
    (fun n s' => ∃ i m₁ news₁ h t o, n = items.size - i ∧ i ≤ items.size ∧ s' = { s with heap := h, toks := t } ∧ J i m₁ news₁ ∧ St g L m₁ ((it, o) :: news₁) h ∧ o.cls = .type "list_iterator" ∧ o.data = .fields #[.ref l, .int i 0])
    ?_ items.size ⟨0, m, news, _, s.toks, _, rfl, Nat.zero_le _, rfl, hJ, S0, rfl, rfl⟩
  rintro n s' ⟨i, m₁, news₁, h, t, o, rfl, hi, rfl, hJ, S1, hc, hd⟩
  refine cut (fun r s₁ => match r with
    | none => Q .next s₁
    | some v => wpAny (model pw w) A (letOwnedTupleGo target (.ref it) v) (fun _ s₁' => wpAny (model pw w) A (assign target env v) (fun _ s₂ => wpAny (model pw w) A (execs body env) (fun f s₃ => match f with
        | .next | .cont => ∃ k, k < items.size - i ∧ ∃ i m₁ news₁ h t o, k = items.size - i ∧ i ≤ items.size ∧ s₃ = { s with heap := h, toks := t } ∧ J i m₁ news₁ ∧ St g L m₁ ((it, o) :: news₁) h ∧ o.cls = .type "list_iterator" ∧ o.data = .fields #[.ref l, .int i 0]
        | .brk => Q .next s₃
        | .ret v => Q (.ret v) s₃) Bot s₂) Bot s₁') Bot s₁) ?_ ?_
  · have hI : h.IsListIter it l i := ⟨o, S1.getHead, hc, hd⟩
    by_cases hlt : i < items.size
    · have hx : items[i]? = some items[i] := by simp [hlt]
      refine wpAny_pyNext_list_item hI (hlist _ _ _ _ _ _ hJ S1) hx fun h' hI' hs => ?_
      obtain ⟨o', ho', hc', hd'⟩ := id hI'
      refine hlet it _ i _ _ hx hI' ?_
      refine cut _ (turn i _ it o' m₁ news₁ h' t hx hJ (S1.setHead hs ho')) fun _ s₂ h₂ => cut _ h₂ fun f s₃ h₃ => ?_
      have fin : (∃ m₂ news₂ h' t', s₃ = { s with heap := h', toks := t' } ∧ J (i + 1) m₂ news₂ ∧ St g L m₂ ((it, o') :: news₂) h') →
          ∃ k, k < items.size - i ∧ ∃ i m₁ news₁ h t o, k = items.size - i ∧ i ≤ items.size ∧ s₃ = { s with heap := h, toks := t } ∧ J i m₁ news₁ ∧ St g L m₁ ((it, o) :: news₁) h ∧ o.cls = .type "list_iterator" ∧ o.data = .fields #[.ref l, .int i 0] := by
        rintro ⟨m₂, news₂, h₂', t', e, hJ', S'⟩
        exact ⟨items.size - (i + 1), by omega, i + 1, m₂, news₂, h₂', t', o', rfl, hlt, e, hJ', S', hc', hd'⟩
      cases f with
      | next => exact fin h₃
      | cont => exact fin h₃
      | brk => exact h₃
      | ret v => exact h₃
    · have e : i = items.size := by omega
      subst e
      refine wpAny_pyNext_list_end hh hI (hlist _ _ _ _ _ _ hJ S1) (by simp) fun h' hx => ?_
      exact done m₁ news₁ h' t hJ (S1.off hx)
  · intro r s₁ hr
    cases r with
    | none => exact wpAny_execs_nil hr
    | some v =>
      refine cut _ hr fun _ s₁' h₁ => cut _ h₁ fun _ s₂ h₂ => cut _ h₂ fun f s₃ h₃ => ?_
      cases f <;> exact h₃
theorem eFor {target iter : Expr} {body : List Stmt} {Q : Flow → Shared → Prop}
    (h : wpAny (model pw w) A (eval iter env) (fun x s₁ => wpAny (model pw w) A (pyIter x) (fun it s₂ => codeAny (model pw w) A (.forLoop target it body [] env) (fun r s' => match r with | .ok f => Q f s' | .error e => cameBackBy (model pw w) A env E e s') s₂) E s₁) E s)
    (hs : ∀ x, foldedSetIterable iter env x = pure x := by intro _; rfl) : wpAny (model pw w) A (exec (.For target iter body [] pos) env) Q E s := wpAny_For h hs
end
end
section
section
variable {w : World} {mg mb : Str → Option Value} {A : Around} {E : Value → Shared → Prop} {s : Shared} {g : Heap} {L a : Addr} {m : Str → Option Value} {news : List (Addr × Obj)} {cn : Str} {cs : Scope} {ccd : Value} {cl : List (Str × Addr)} {pos : Pos}
/-- k, v = a pair -/
theorem aPair {x y : Str} {px py : Pos} {k : Nat} {t : Addr} {u v : Value} {Q : Unit → Shared → Prop} (hh : A.handled = none) (S : St g L m news s.heap) (ht : s.heap.IsTuple t #[u, v])
    (h : ∀ h', St g L (fun z => if z = y then some v else if z = x then some u else m z) news h' → Q () { s with heap := h', toks := s.toks + 1 + 1 })
    (hk : cs.kind = .function) (hx : (envX cn cs L a ccd cl).kindOf x = some .local) (hy : (envX cn cs L a ccd cl).kindOf y = some .local) :
    wpAny (model pw w) A (assign (.Tuple [.Name x px, .Name y py] k pos) (envX cn cs L a ccd cl) (.ref t)) Q E s := by
  refine wpAny_assign_Tuple hh ht (by rfl) (by rfl) fun h₁ hx₁ => ?_
  have S1 : St g L m news h₁ := S.keeps fun b o e => hx₁ b o (Nat.ne_of_lt (Heap.lt_size e)) e
  refine wpAny_assignInOrder_more ?_
  refine wpAny_assign_Name (sLocal S1 (fun h₂ S2 => ?_) hk hx)
  refine wpAny_assignInOrder_more (wpAny_assign_Name (sLocal S2 (fun h₃ S3 => ?_) hk hy))
  refine wpAny_assignInOrder_none ?_
  exact h h₃ S3
end

/-- a table of headers: the object, its dict, its list of pairs -/
abbrev hdrDict (P : Params) (hl : Addr) (t : Tok) (n : Nat) : Obj := dictOf [⟨PyData.keyHash P "_headers", .str "_headers" t, .ref hl⟩] n
structure Tab (P : Params) (h : Heap) (hx hl : Addr) (rs : List Value) : Prop where
  inst : ∃ hd t n, h.get? hx = some (instObj 253 hd) ∧ h.get? hd = some (hdrDict P hl t n)
  list : ∃ k, h.get? hl = some (listOf rs.toArray k)
inductive Rows (h : Heap) : List Value → List (Str × Str) → Prop
  | nil : Rows h [] []
  | cons {a : Addr} {x y : Str} {t u : Tok} {rs : List Value} {es : List (Str × Str)} : h.IsTuple a #[.str x t, .str y u] → Rows h rs es → Rows h (.ref a :: rs) ((x, y) :: es)
theorem Tab.keeps {P : Params} {h h' : Heap} {hx hl : Addr} {rs : List Value} (T : Tab P h hx hl rs) (k : Sub h h') : Tab P h' hx hl rs :=
  ⟨let ⟨hd, t, n, a, b⟩ := T.inst; ⟨hd, t, n, k _ _ a, k _ _ b⟩, let ⟨n, a⟩ := T.list; ⟨n, k _ _ a⟩⟩
theorem Rows.keeps {h h' : Heap} {rs : List Value} {es : List (Str × Str)} (R : Rows h rs es) (k : Sub h h') : Rows h' rs es := by
  induction R with
  | nil => exact .nil
  | cons ht _ ih => exact .cons (let ⟨o, a, b⟩ := ht; ⟨o, k _ _ a, b⟩) ih
theorem Rows.get {h : Heap} {rs : List Value} {es : List (Str × Str)} (R : Rows h rs es) : ∀ (i : Nat) (v : Value), rs[i]? = some v → ∃ (hi : i < es.length) (a : Addr) (t u : Tok), v = .ref a ∧ h.IsTuple a #[.str es[i].1 t, .str es[i].2 u] := by
  induction R with
  | nil => intro i v e; simp at e
  | @cons a x y t u rs es ht R ih =>
    intro i v e
    cases i with
    | zero =>
      have e' : Value.ref a = v := by simpa using e
      exact ⟨by simp, a, t, u, e'.symm, ht⟩
    | succ i =>
      obtain ⟨hi, a', t', u', e1, e2⟩ := ih i v (by simpa using e)
      exact ⟨by simpa using hi, a', t', u', e1, by simpa using e2⟩
theorem Rows.len {h : Heap} {rs : List Value} {es : List (Str × Str)} (R : Rows h rs es) : rs.length = es.length := by
  induction R with
  | nil => rfl
  | cons _ _ ih => rw [List.length_cons, List.length_cons, ih]
theorem Tab.at_ {P : Params} {h : Heap} {hx hl : Addr} {rs : List Value} (T : Tab P h hx hl rs) : ∃ hd t n, InstAt h hx (instObj 253 hd) 253 (some (hdrDict P hl t n)) := by
  obtain ⟨hd, t, n, a, b⟩ := T.inst
  exact ⟨hd, t, n, a, rfl, rfl, b⟩
variable {w : World} {mg mb : Str → Option Value} {A : Around} {s : Shared} {h₀ : Heap}
theorem get_spec {hx hl : Addr} {rs : List Value} {es : List (Str × Str)} {x low : Str} {t : Tok} (B : Base w mg mb h₀) (hk : Sub h₀ s.heap) (R : Room A 4) (T : Tab w.params s.heap hx hl rs) (RS : Rows s.heap rs es)
    (hlow : Txt.lower x = low) (hxl : x.length ≤ 5592405) (hN : Nam low) (hll : low.length ≤ 100) (hes : ∀ e ∈ es, Txt.lower e.1 = e.1 ∧ e.1.length ≤ 100) :
    codeAny (model pw w) A (.call (.ref 200) ⟨[.ref hx, .str x t], []⟩) (Post [] s fun v _ => match es.find? (fun e => e.1 == low) with | some e => ∃ u, v = .str e.2 u | none => v = .none) s := by
  refine enterK (own := []) (st := stmIn 13 8) (f := 200) (binds := [("self", .ref hx), ("name", .str x t), ("default", .none)]) (by rfl) (by kernel_rfl) (by kernel_rfl) B hk noOwn (Room.mono R (by decide) : Room A 0).depth
    (binds_K (B.X.keeps hk) rfl (by rfl : (K w.params).lookup 193 = some (ob193 w.params)) rfl rfl rfl) (by kernel_rfl) ?_
  intro g L h₁ m tk B hz hg S hm eL
  have R' : ∀ env, Room (A.deeper env) 3 := fun env => Room.deeper R
  have ms : m "self" = some (.ref hx) := (hm _).trans rfl
  have mx : m "name" = some (.str x t) := (hm _).trans rfl
  have md : m "default" = some .none := (hm _).trans rfl
  clear hm
  have hsub : Sub s.heap g := fun b o e => hg b o (by simp) e
  have T1 := T.keeps hsub
  have RS1 := RS.keeps hsub
  obtain ⟨hd, th, n, I⟩ := T1.at_
  have I' : ∀ h', Sub g h' → InstAt h' hx (instObj 253 hd) 253 (some (hdrDict w.params hl th n)) := fun h' k => ⟨k _ _ I.at_, rfl, rfl, k _ _ I.dict⟩
  refine wpAny_execs_cons ?_
  walk_at "m.step"
  refine eMeth ?_
  walk_at "m.step"
  refine method_inst S.F B.X (I' _ S.F.keep) (by kernel_rfl) (by rfl : findIn (K w.params) (.ref 253) "_convert_string_type" = some (some (.ref 152))) (by kernel_rfl) (by rfl) ?_
  refine callWith_fn (by rfl) (by rfl) (args1 ?_)
  refine eMeth ?_
  walk_at "m.step"
  refine GM.lower ?_
  refine callWith_val (by rfl) (by rfl) (fun a e => nomatch e) (args0 (kw0 ?_))
  refine SCL.lower (x := x) hxl (fun _ => ?_)
  rw [hlow]
  refine kw1 ?_
  walk_at "m.step"
  refine ⟨⟨152, _, _, rfl, S.F.keep _ _ (B.X _ _ (by rfl : (K w.params).lookup 152 = some (ob152 w.params))), rfl⟩, ?_⟩
  refine call_post (conv_spec (x := low) (b := true) B S.F.keep (Room.mono (R' _) (by decide)) hN) ?_
  rintro v h5 t5 hz5 hk5 rfl
  have S5 := S.keeps (fun b o e => hk5 b o (by simp) e)
  refine sLocal S5 (fun h6 S6 => ?_) (by kernel_rfl) (by kernel_rfl)
  dsimp only
  walk_at "m.step"
  refine eFor (Attribute_name ?_)
  walk_at "m.step"
  refine get_own S6.F B.X (I' _ S6.F.keep) (by kernel_rfl) (by kernel_rfl) (by rfl : findIn (K w.params) (.ref 253) "_headers" = some none) (by kernel_rfl) (by rfl) (by kernel_rfl) ?_
  obtain ⟨k, hl1⟩ := T1.list
  have hlist : ∀ h', Sub g h' → h'.IsList hl rs.toArray := fun h' q => ⟨_, q _ _ hl1, rfl, k, rfl⟩
  refine eForList (A := A.deeper _) (R' (envX "Headers.get" (fScope (stmIn 13 8)) L 200 (.ref 199) [])).handled (S := S6) (hlist _ S6.F.keep)
    (fun i m₁ news₁ => news₁ = [] ∧ m₁ "name" = some (.str low _) ∧ m₁ "default" = some .none ∧ ∀ j (hj : j < es.length), j < i → es[j].1 ≠ low)
    ⟨rfl, by walk_at "m.look", by walk_at "m.look", fun j hj q => absurd q (Nat.not_lt_zero _)⟩
    (fun i m₁ news₁ h o it _ S' => hlist _ S'.F.keep) ?_ ?_ ?_
  · intro it v i s₁ P hx hI hP
    obtain ⟨hi, a, t', u', rfl, _⟩ := RS1.get i v (by simpa using hx)
    exact wpAny_letOwnedTupleGo_listiter hI hP
  · rintro i v it o m₁ news₁ h t hx ⟨rfl, mn, md, hb⟩ S7
    obtain ⟨hi, a, t', u', rfl, htup⟩ := RS1.get i v (by simpa using hx)
    dsimp only
    have hE := hes es[i] (List.getElem_mem hi)
    refine aPair (R' (envX "Headers.get" (fScope (stmIn 13 8)) L 200 (.ref 199) [])).handled S7 (let ⟨o, q1, q2⟩ := htup; ⟨o, S7.F.keep _ _ q1, q2⟩) (fun h8 S8 => ?_) (by kernel_rfl) (by kernel_rfl) (by kernel_rfl)
    dsimp only
    walk_at "m.step"
    walk_at "m.step"
    walk_at "m.step"
    refine eMeth ?_
    walk_at "m.step"
    refine GM.lower ?_
    refine callWith_val (by rfl) (by rfl) (fun a e => nomatch e) (args0 (kw0 ?_))
    refine SCL.lower (x := es[i].1) (by omega) (fun _ => ?_)
    rw [hE.1]
    walk_at "m.step"
    refine eq_str ?_
    repeat' walk_at "m.step"
    by_cases he : es[i].1 = low
    · rw [if_pos (by simpa using he)]
      walk_at "m.step"
      walk_at "m.step"
      walk_at "m.step"
      refine S8.post eL hg ?_
      have e : es.find? (fun e => e.1 == low) = some es[i] := by
        rw [List.find?_eq_some_iff_getElem]
        exact ⟨by simpa using he, i, hi, rfl, fun j hj => by simpa using hb j (Nat.lt_trans hj hi) hj⟩
      rw [e]
      exact ⟨_, rfl⟩
    · rw [if_neg (by simpa using he)]
      repeat' walk_at "m.step"
      exact ⟨_, _, _, _, rfl, ⟨rfl, by walk_at "m.look", by walk_at "m.look", fun j hj q => by
        by_cases ej : j = i
        · subst ej; exact he
        · exact hb j hj (by omega)⟩, S8⟩
  · rintro m₁ news₁ h t ⟨rfl, mn, md, hb⟩ S7
    dsimp only
    repeat' walk_at "m.step"
    refine S7.post eL hg ?_
    have e : es.find? (fun e => e.1 == low) = none := by
      rw [List.find?_eq_none]
      intro p hp
      obtain ⟨j, hj, rfl⟩ := List.getElem_of_mem hp
      simpa using hb j hj (by rw [List.size_toArray, RS.len]; exact hj)
    rw [e]
end
section
section
variable {w : World} {mg mb : Str → Option Value} {A : Around} {E : Value → Shared → Prop} {s : Shared} {g : Heap} {L : Addr} {m : Str → Option Value} {news : List (Addr × Obj)} {env : Env} {pos : Pos}
abbrev tupOf (vs : List Value) : Obj := { cls := .type "tuple", data := .seq vs.toArray }
theorem St.push {h : Heap} (S : St g L m news h) (o : Obj) (hf : o.isFreed = false := by rfl) : St g L m ((h.objs.size, o) :: news) (h.push o) :=
  S.add (fun b o e => Heap.get?_push_of_some _ e) (Heap.get?_push_size _ hf) (Nat.le_refl _)
theorem eNewList {vs : List Value} {Q : Value → Shared → Prop} (S : St g L m news s.heap)
    (h : ∀ l h', s.heap.objs.size ≤ l → St g L m ((l, listOf vs.toArray 0) :: news) h' → Q (.ref l) { s with heap := h' }) (hsz : vs.length ≤ sizeLine) : wpAny (model pw w) A (newList vs) Q E s :=
  wpAny_newList (h _ _ (Nat.le_refl _) (S.push _)) hsz
theorem eNewTuple {vs : List Value} {Q : Value → Shared → Prop} (S : St g L m news s.heap)
    (h : ∀ l h', s.heap.objs.size ≤ l → St g L m ((l, tupOf vs) :: news) h' → Q (.ref l) { s with heap := h' }) (hsz : vs.length ≤ sizeLine) : wpAny (model pw w) A (newTuple vs) Q E s :=
  wpAny_newTuple (h _ _ (Nat.le_refl _) (S.push _)) hsz
theorem eAppend {its : Array Value} {n : Nat} {D : Addr} {x : Value} {Q : Value → Shared → Prop} (S : St g L m ((D, listOf its n) :: news) s.heap)
    (h : ∀ h', St g L m ((D, listOf (its.push x) (n + 1)) :: news) h' → Q .none { s with heap := h' }) (hsz : its.size ≤ sizeLine) : wpAny (model pw w) A (call (.builtin "list.append") [.ref D, x]) Q E s :=
  append_at (hsz := hsz) S.getHead fun h' hs ho' => h h' (S.setHead hs ho')
theorem eDebug {Q : Value → Shared → Prop} (h : Q (.bool true) s) : wpAny (model pw w) A (eval (.Name "__debug__" pos) env) Q E s := by
  show wpAny _ _ (do standAt pos; debugConstant) _ _ _
  exact wpAny_bind (wpAny_standAt (wpAny_bind (wpAny_rule (wpAny_pure h))))
theorem St.swap {h : Heap} {p q : Addr × Obj} (S : St g L m (p :: q :: news) h) : St g L m (q :: p :: news) h :=
  S.perm (fun x hx => by
    rcases List.mem_cons.mp hx with rfl | hx
    · exact .tail _ (.head _)
    · rcases List.mem_cons.mp hx with rfl | hx
      · exact .head _
      · exact .tail _ (.tail _ hx)) (by
    have := S.nd
    simp only [List.map_cons, List.nodup_cons, List.mem_cons, not_or] at this ⊢
    exact ⟨⟨Ne.symm this.1.1, this.2.1⟩, this.1.2, this.2.2⟩)
theorem St.fresh {h : Heap} {a : Addr} {o : Obj} (S : St g L m ((a, o) :: news) h) : ∀ p ∈ news, p.1 ≠ a := fun p hp e => by
  have := S.nd
  rw [List.map_cons, List.nodup_cons] at this
  have z : p.1 ∈ news.map (·.1) := List.mem_map_of_mem hp
  exact this.1 ((show p.1 = a from e) ▸ z)
theorem eSetDict {x dx C : Addr} {ox : Obj} {name : Str} {v : Value} {es es' : List DictEntry} {n n' : Nat} {Q : Unit → Shared → Prop} (S : St g L m ((dx, dictOf es n) :: news) s.heap) (B : Base w mg mb g) (hI : s.heap.get? x = some ox) (hc : ox.cls = .ref C) (hod : notCls ox = true) (hd : ox.dict = some dx)
    (hs : findIn (K w.params) (.ref C) "__setattr__" = some (some (.builtin "object.__setattr__"))) (hp : plainOver (K w.params) C = true) (ht : takerIn (K w.params) C name = some none) (hh : hasDictIn (K w.params) C = true) (hl : (getL name es).isSome = true)
    (e : (putL name (PyData.keyHash w.params name) (.str name (s.toks + 1)) v es, putN name es n) = (es', n')) (hz : es'.length ≤ 1000)
    (h : ∀ h', St g L m ((dx, dictOf es' n') :: news) h' → Q () { s with heap := h', toks := s.toks + 2 }) :
    wpAny (model pw w) A (setAttr (.ref x) name v) Q E s :=
  set_dict S.F B.X S.N ⟨hI, hc, hod, by rw [hd]; exact S.getHead⟩ hd hs hp ht hh hl e (.head S.fresh) hz fun h' F N => h h' ⟨F, N, S.nd⟩
/-- an object that a call has made, onto the ledger behind it -/
theorem St.made {h h' : Heap} {a : Addr} {o : Obj} {news' : List (Addr × Obj)} (S : St g L m news h) (S' : St g L m news' h') (e : news'.map (·.1) = news.map (·.1)) (ho : h'.get? a = some o) (hn : h.get? a = none) : St g L m ((a, o) :: news') h' := by
  refine ⟨S'.F, fun p hp => ?_, ?_⟩
  · rcases List.mem_cons.mp hp with rfl | hp
    · refine ⟨ho, fun q => ?_, ?_⟩
      · obtain ⟨oL, es, ep, hL, r⟩ := S.F.ns
        rw [← show a = L from q, hn] at hL
        cases hL
      · cases x : g.get? a with
        | none => rfl
        | some o' => rw [S.F.keep _ _ x] at hn; cases hn
    · exact S'.N p hp
  · rw [List.map_cons, List.nodup_cons]
    refine ⟨fun q => ?_, S'.nd⟩
    rw [e] at q
    obtain ⟨p, hp, e'⟩ := List.mem_map.mp q
    have z := (S.N p hp).1
    rw [show p.1 = a from e', hn] at z
    cases z
/-- what the ledger names is new to the caller, but for the own -/
theorem St.new {s : Heap} {h : Heap} {own : List (Addr × Obj)} (S : St g L m news h) (hg : ∀ b o, b ∉ own.map (·.1) → s.get? b = some o → g.get? b = some o) {p : Addr × Obj} (hp : p ∈ news) (nb : p.1 ∉ own.map (·.1)) : s.get? p.1 = none := by
  cases x : s.get? p.1 with
  | none => rfl
  | some o => have := (S.N p hp).2.2; rw [hg _ _ nb x] at this; cases this
end
section
variable {w : World} {A : Around} {s : Shared} {h₀ : Heap}
/-- a def with **names is entered: the dict of names is new and empty -/
theorem enterKw {mg mb : Str → Option Value} {R : Result → Shared → Prop} {n q : Str} {st : Stmt} {dV kV doc pm : Value} {c f : Addr} {args : Args} {binds : Addr → List (Str × Value)} {own : List (Addr × Obj)}
    (ho : (K w.params).lookup f = some ⟨.type "function", none, .func (mkFd n q st dV kV doc pm (.ref c)), #[]⟩) (hcd : codeIn (K w.params) (.ref c) q = true)
    (hs : ((fScope st).names.all (fun x => x.2 != .cell) && !(fScope st).isCoroutine && !(fScope st).isGenerator && (fScope st).kind == .function) = true)
    (B : Base w mg mb h₀) (hk : Sub h₀ s.heap) (O : Owns h₀ s.heap own) (hroom : A.depth < recursionLimit)
    (hbind : bindArgs (mkFd n q st dV kV doc pm (.ref c)) args = (alloc { cls := .type "dict", data := .dict #[] } >>= fun d => pure (binds d))) (hloc : ∀ d, ((binds d).all fun y => (fScope st).names.lookup y.1 == some .local) = true)
    (h : ∀ D g L h₁ m tk, Base w mg mb g → s.heap.objs.size ≤ L → s.heap.objs.size ≤ D → (∀ b o, b ∉ own.map (·.1) → s.heap.get? b = some o → g.get? b = some o) → St g L m ((D, dictOf [] 0) :: own) h₁ → (∀ y, m y = (binds D).reverse.lookup y) →
      wpAny (model pw w) (A.deeper (envX q (fScope st) L f (.ref c) [])) (execs (fBody st) (envX q (fScope st) L f (.ref c) [])) (fun fl s' => R (.ok (.ret (match fl with | .ret v => v | _ => .none))) s') Bot
        { s with heap := h₁, toks := tk }) :
    codeAny (model pw w) A (.call (.ref f) args) R s := by
  simp only [Bool.and_eq_true, Bool.not_eq_true', List.all_eq_true, bne_iff_ne, beq_iff_eq] at hs
  have hk1 : Sub s.heap (s.heap.push (dictOf [] 0)) := fun b o e => Heap.get?_push_of_some _ e
  have hD : ∀ b o, s.heap.get? b = some o → b ≠ s.heap.objs.size := fun b o e => Nat.ne_of_lt (Heap.lt_size e)
  have O1 : Owns h₀ (s.heap.push (dictOf [] 0)) ((s.heap.objs.size, dictOf [] 0) :: own) := by
    refine ⟨fun p hp => ?_, ?_⟩
    · rcases List.mem_cons.mp hp with rfl | hp
      · refine ⟨Heap.get?_push_size _ rfl, ?_⟩
        cases x : h₀.get? s.heap.objs.size with
        | none => rfl
        | some o => exact absurd rfl (hD _ _ (hk _ _ x))
      · exact ⟨hk1 _ _ (O.at_ p hp).1, (O.at_ p hp).2⟩
    · rw [List.map_cons, List.nodup_cons]
      refine ⟨fun q => ?_, O.nd⟩
      obtain ⟨p, hp, e⟩ := List.mem_map.mp q
      exact hD _ _ (O.at_ p hp).1 e
  refine codeAny_call_function (fd := mkFd n q st dV kV doc pm (.ref c)) (body := fBody st) hroom (hk _ _ (B.X _ _ ho)) rfl hs.1.1.2 hs.1.2 rfl (codeRec_of (B.X.keeps hk) hcd) ?_
  rw [hbind]
  refine wpAny_bind (wpAny_alloc (wpAny_pure ?_))
  refine wpAny_newFunctionEnv (fun x hx => hs.1.1.1 x hx) (fun y hy => by show (fScope st).names.lookup y.1 = _; simpa using List.all_eq_true.mp (hloc _) y hy) (fun h₁ hns₀ hsb₀ => ⟨((B.T.nolimit.keeps hk).keeps hk1).fresh _ hsb₀, codeAny_func ?_⟩) hs.2
  generalize e1 : s.heap.push (dictOf [] 0) = s1 at *
  have hz1 : s1.objs.size = s.heap.objs.size + 1 := by rw [← e1]; exact Heap.size_push ..
  have hsz : (hideAll s1 (((s.heap.objs.size, dictOf [] 0) :: own).map (·.1))).objs.size = s1.objs.size := hideAll_size _ _
  have hk₁ : Sub s1 h₁ := fun b o e => hsb₀.extBut b o (Nat.ne_of_lt (Heap.lt_size e)) (Heap.get?_push_of_some _ e)
  refine wpAny_mono (h s.heap.objs.size (hideAll s1 (((s.heap.objs.size, dictOf [] 0) :: own).map (·.1))) s1.objs.size h₁ _ _ (B.keeps fun b o e => hideAll_get _ (hk1 _ _ (hk b o e)) fun q => ?_) (by omega) (Nat.le_refl _)
    (fun b o nb e => hideAll_get _ (hk1 _ _ e) (by rw [List.map_cons, List.mem_cons]; exact fun q => q.elim (hD b o e) nb)) ⟨⟨hns₀, fun b o e => hk₁ b o (of_hideAll _ e), Nat.le_of_eq hsz⟩, fun p hp => ⟨hk₁ _ _ (O1.at_ p hp).1, Nat.ne_of_lt (Heap.lt_size (O1.at_ p hp).1), hideAll_none _ (List.mem_map_of_mem hp)⟩, O1.nd⟩ (fun _ => rfl)) (fun _ _ x => x) fun _ _ x => x.elim
  obtain ⟨p, hp, rfl⟩ := List.mem_map.mp q
  rw [(O1.at_ p hp).2] at e; cases e
theorem St.post' {g h : Heap} {L : Addr} {m : Str → Option Value} {news own : List (Addr × Obj)} {V : Value → Heap → Prop} {v : Value} {t : Nat} (S : St g L m news h) (hL : s.heap.objs.size ≤ L)
    (hg : ∀ b o, b ∉ own.map (·.1) → s.heap.get? b = some o → g.get? b = some o) (hv : V v h) : Post own s V (.ok (.ret v)) { s with heap := h, toks := t } :=
  ⟨v, h, t, rfl, rfl, Nat.le_trans hL (Nat.le_of_lt (Fr.size S.F)), fun b o nb e => S.F.keep b o (hg b o nb e), hv⟩
end
end
section
variable {w : World} {mg mb : Str → Option Value} {A : Around} {s : Shared} {h₀ : Heap}
theorem init_spec {hx dx : Addr} (B : Base w mg mb h₀) (hk : Sub h₀ s.heap) (R : Room A 2) (hI : s.heap.get? hx = some (instObj 253 dx)) (hxd : hx ≠ dx) (O : Owns h₀ s.heap [(dx, dictOf [] 0)]) :
    codeAny (model pw w) A (.call (.ref 145) ⟨[.ref hx], []⟩) (Post [(dx, dictOf [] 0)] s fun v h' => v = .none ∧ ∃ hl t n, h'.get? dx = some (hdrDict w.params hl t n) ∧ h'.get? hl = some (listOf #[] 0) ∧ s.heap.get? hl = none) s := by
  refine enterK (st := stmIn 13 0) (f := 145) (binds := [("self", .ref hx), ("headers", .none)]) (by rfl) (by kernel_rfl) (by kernel_rfl) B hk O (Room.mono R (by decide) : Room A 0).depth
    (binds_K (B.X.keeps hk) rfl (by rfl : (K w.params).lookup 138 = some (ob138 w.params)) rfl rfl rfl) (by kernel_rfl) ?_
  intro g L h₁ m tk B hz hg S hm eL
  have hh : ∀ env, (A.deeper env).handled = none := fun env => (Room.deeper R).handled
  have ms : m "self" = some (.ref hx) := (hm _).trans rfl
  have mx : m "headers" = some .none := (hm _).trans rfl
  clear hm
  have hIg : g.get? hx = some (instObj 253 dx) := hg _ _ (by simpa using hxd) hI
  refine wpAny_execs_cons ?_
  walk_at "m.step"
  refine wpAny_IfExp ?_
  repeat' walk_at "m.step"
  refine wpAny_isNot_self (by rfl) ?_
  repeat' walk_at "m.step"
  rw [if_neg Bool.false_ne_true]
  refine List_ (args0 ?_)
  refine eNewList S (fun hl h2 hlt S2 => ?_) (by decide)
  refine sLocal S2 (fun h3 S3 => ?_) (by kernel_rfl) (by kernel_rfl)
  dsimp only
  walk_at "m.step"
  walk_at "m.step"
  walk_at "m.step"
  refine eCall (eBuiltin (v := .type "type") S3 B (by rfl) (by kernel_rfl) (by decide) ?_ (by kernel_rfl) (by kernel_rfl))
  refine callWith_val (by rfl) (by rfl) (fun a e => nomatch e) (args1 ?_)
  walk_at "m.step"
  refine kw0 (call_type_of (Tx := "list") ⟨_, S3.getHead, rfl⟩ (by decide) ?_)
  refine eBuiltin (v := .type "list") S3 B (by rfl) (by kernel_rfl) (by decide) ?_ (by kernel_rfl) (by kernel_rfl)
  refine wpAny_isNot_self (by rfl) ?_
  repeat' walk_at "m.step"
  rw [if_neg Bool.false_ne_true]
  repeat' walk_at "m.step"
  refine plainObj_wpAny_Assign_Attribute ?_
  repeat' walk_at "m.step"
  refine eSetDict S3.swap B (C := 253) (S3.F.keep _ _ hIg) rfl rfl rfl (by rfl) (by kernel_rfl) (by rfl) (by kernel_rfl) (by rfl) rfl (by simp [putL]) ?_
  intro h4 S4
  dsimp only [putL, putN]
  repeat' walk_at "m.step"
  refine wpAny_isTrue_value ?_
  walk_at "m.step"
  walk_at "m.step"
  rw [if_pos rfl]
  walk_at "m.step"
  refine eFor ?_
  walk_at "m.step"
  refine eForList (items := #[]) (hh _) (S := S4) ⟨_, (S4.N _ (.tail _ (.head _))).1, rfl, 0, rfl⟩ (fun i m₁ news₁ => news₁ = _) rfl (fun i m₁ news₁ h o it e S' => ?_) ?_ ?_ ?_
  · subst e
    exact ⟨_, (S'.N _ (.tail _ (.tail _ (.head _)))).1, rfl, 0, rfl⟩
  · intro it v i s₁ P hx
    simp at hx
  · intro i v it o m₁ news₁ h t hx
    simp at hx
  · rintro m₁ news₁ h t rfl S7
    dsimp only
    repeat' walk_at "m.step"
    exact S7.post eL hg ⟨rfl, hl, _, _, S7.getHead, (S7.N _ (.tail _ (.head _))).1, S7.new hg (.tail _ (.head _)) (by simpa using S7.fresh _ (.head _))⟩
theorem room_call {C : Addr} {vs : List Value} {A : Around} {n : Nat} (R : Room A (n + 2)) : Room (A.under (.builtin "type.__call__" ⟨.ref C :: vs, []⟩)) n :=
  ⟨by have := R.depth; rw [depth_under_make]; omega, by have := R.units; rw [units_under_make]; omega, R.handled⟩
/-- Headers() -/
theorem newHeaders {g : Heap} {L : Addr} {m : Str → Option Value} {news : List (Addr × Obj)} {E : Value → Shared → Prop} {Q : Value → Shared → Prop} (S : St g L m news s.heap) (B : Base w mg mb g) (R : Room A 4)
    (h : ∀ hx dx hl t n h' tk, St g L m ((hl, listOf #[] 0) :: (dx, hdrDict w.params hl t n) :: (hx, instObj 253 dx) :: news) h' → Q (.ref hx) { s with heap := h', toks := tk }) :
    wpAny (model pw w) A (call (.ref 253) [] []) Q E s := by
  refine call_cls S.F B.X S.N (by kernel_rfl) (by rfl : findIn (K w.params) (.ref 253) "__init__" = some (some (.ref 145))) (by kernel_rfl) fun x dx h1 F1 N1 hlt hltx => ?_
  have S1 : St g L m ((x, instObj 253 dx) :: (dx, dictOf [] 0) :: news) h1 := ⟨F1, N1, by
    rw [List.map_cons, List.map_cons, List.nodup_cons, List.nodup_cons]
    refine ⟨fun q => ?_, fun q => ?_, S.nd⟩
    · rcases List.mem_cons.mp q with q | q
      · exact absurd (show x = dx from q) (Nat.ne_of_gt hltx)
      · obtain ⟨p, hp, e⟩ := List.mem_map.mp q
        exact absurd (show p.1 = x from e) (Nat.ne_of_lt (Nat.lt_trans (hlt p hp) hltx))
    · obtain ⟨p, hp, e⟩ := List.mem_map.mp q
      exact absurd (show p.1 = dx from e) (Nat.ne_of_lt (hlt p hp))⟩
  have S2 : St g L m ([(dx, dictOf [] 0)] ++ ((x, instObj 253 dx) :: news)) h1 := S1.swap
  refine codeAny_mono (init_spec (s := { s with heap := h1 }) (A := A.under _) (hx := x) (dx := dx) B F1.keep ?_ S1.getHead (Nat.ne_of_gt hltx) S2.owns) ?_
  · exact room_call R
  rintro r s' ⟨v, h', t', rfl, rfl, hz, hk, rfl, hl, t, n, q1, q2, q3⟩
  refine ⟨rfl, ?_⟩
  have S3 := S2.after (own' := [(dx, hdrDict w.params hl t n)]) hz hk rfl (fun p hp => by
    rcases List.mem_singleton.mp hp with rfl
    exact q1)
  exact h _ _ _ _ _ _ _ (S2.made S3 rfl q2 q3)
end
section
section
variable {w : World} {mg mb : Str → Option Value} {A : Around} {E : Value → Shared → Prop} {s : Shared} {g : Heap} {L : Addr} {m : Str → Option Value} {news : List (Addr × Obj)} {env : Env} {pos : Pos}
/-- for .. in d.items(), d empty -/
theorem eForItemsNone {d v : Addr} {target : Expr} {body : List Stmt} {Q : Flow → Shared → Prop} (hh : A.handled = none) (S : St g L m news s.heap) (hv : s.heap.IsItemsView v d) (hm : s.heap.DictAt (strKind pw w) d [] 0)
    (h : ∀ h', St g L m news h' → Q .next { s with heap := h' }) :
    wpAny (model pw w) A (pyIter (.ref v)) (fun it s₂ => codeAny (model pw w) A (.forLoop target it body [] env) (fun r s' => match r with | .ok f => Q f s' | .error e => cameBackBy (model pw w) A env E e s') s₂) E s := by
  refine wpAny_pyIter_items hv hm ?_
  have S1 := S.push { cls := .type "dict_itemiterator", data := .fields #[.none, .bool false, .ref d, .int 0 0, .int ((0 : Nat) : Int) 0, .int ((0 : Nat) : Int) 0, .none, .none] }
  refine codeAny_forLoop_any (R := fun r s' => match r with | .ok f => Q f s' | .error e => cameBackBy (model pw w) A env E e s')
    (fun n s' => s' = _) ?_ 0 rfl
  rintro n s' rfl
  refine wpAny_pyNext_items_end (kvs := []) (knd := strKind pw w) hh (Heap.get?_push_size _ rfl) (hm.push _) rfl fun h' hx => ?_
  exact wpAny_execs_nil (h h' (S1.off hx))
end
variable {w : World} {mg mb : Str → Option Value} {A : Around} {s : Shared} {h₀ : Heap}
/-- self._convert_string_type(x, name=b), within a body -/
theorem eConv {g : Heap} {L a hx : Addr} {m : Str → Option Value} {news : List (Addr × Obj)} {cn : Str} {cs : Scope} {ccd : Value} {cl : List (Str × Addr)} {E : Value → Shared → Prop} {pos : Pos} {b : Bool} {y : Str} {py kp kp2 : Pos} {kk : Nat} {hd n : Nat} {th : Tok} {x : Str} {t : Tok} {hl : Addr} {Q : Value → Shared → Prop} (S : St g L m news s.heap) (B : Base w mg mb g) (R : Room A 2) (I : InstAt s.heap hx (instObj 253 hd) 253 (some (hdrDict w.params hl th n)))
    (hN : if b then Nam x else Val x) (hy : m y = some (.str x t)) (hk : cs.kind = .function) (hkd : (envX cn cs L a ccd cl).kindOf y = some .local) (hdb : (y == ("__debug__" : Str)) = false) (h : ∀ h' tk, St g L m news h' → Sub s.heap h' → Q (.str x t) { s with heap := h', toks := tk }) :
    ∀ {pl : Sem Bool}, wpAny (model pw w) A (getMethod (.ref hx) "_convert_string_type" pl) (fun fx s₂ => wpAny (model pw w) A (callWith pos fx.1 fx.2 (backTo pos (starEach [.Name y py] (envX cn cs L a ccd cl))) (backToKw pos (keywordEach [⟨some "name", .Constant (.bool b) kk kp, kp2⟩] (envX cn cs L a ccd cl)))) Q E s₂) E s := by
  intro pl
  refine method_inst S.F B.X I (by kernel_rfl) (by rfl : findIn (K w.params) (.ref 253) "_convert_string_type" = some (some (.ref 152))) (by kernel_rfl) (by rfl) ?_
  refine callWith_fn (by rfl) (by rfl) (args1 (eLocal S hy ?_ hk hkd hdb))
  refine kw1 ?_
  refine wpAny_Constant_bool ?_
  refine ⟨⟨152, _, _, rfl, S.F.keep _ _ (B.X _ _ (by rfl : (K w.params).lookup 152 = some (ob152 w.params))), rfl⟩, ?_⟩
  refine call_post (conv_spec (x := x) (b := b) B S.F.keep R hN) ?_
  rintro v h5 t5 hz5 hk5 rfl
  have k : Sub s.heap h5 := fun b o e => hk5 b o (by simp) e
  exact h _ _ (S.keeps k) k
theorem add_spec {hx hl hd : Addr} {th : Tok} {n : Nat} {rs : List Value} {k : Nat} {x y : Str} {t u : Tok} (B : Base w mg mb h₀) (hk : Sub h₀ s.heap) (R : Room A 4) (hI : s.heap.get? hx = some (instObj 253 hd)) (hD : s.heap.get? hd = some (hdrDict w.params hl th n))
    (O : Owns h₀ s.heap [(hl, listOf rs.toArray k)]) (hxl : hx ≠ hl) (hdl : hd ≠ hl) (hN : Nam x) (hV : Val y) (hyl : y.length ≤ 1000) (hlen : rs.length ≤ 1000) :
    codeAny (model pw w) A (.call (.ref 250) ⟨[.ref hx, .str x t, .str y u], []⟩) (Post [(hl, listOf rs.toArray k)] s fun v h' => v = .none ∧ ∃ a k' u', h'.get? hl = some (listOf (rs ++ [Value.ref a]).toArray k') ∧ h'.get? a = some (tupOf [.str x t, .str y u']) ∧ s.heap.get? a = none) s := by
  refine enterKw (st := stmIn 13 16) (f := 250) (args := ⟨[.ref hx, .str x t, .str y u], []⟩) (binds := fun (D : Addr) => [("self", .ref hx), ("_name", .str x t), ("_value", .str y u), ("_params", Value.ref D)]) (by rfl) (by kernel_rfl) (by kernel_rfl) B hk O (Room.mono R (by decide) : Room A 0).depth
    (by rfl) (fun d => by kernel_rfl) ?_
  have hmod := modules_low (B.T.nolimit.keeps hk)
  intro D g L h₁ m tk B hL hDn hg S hm
  have hDm : (D == sysModules) = false := by rw [beq_eq_false_iff_ne]; exact Nat.ne_of_gt (Nat.lt_of_lt_of_le hmod hDn)
  have R' : ∀ env, Room (A.deeper env) 3 := fun env => Room.deeper R
  have ms : m "self" = some (.ref hx) := (hm _).trans rfl
  have mn : m "_name" = some (.str x t) := (hm _).trans rfl
  have mv : m "_value" = some (.str y u) := (hm _).trans rfl
  have mp : m "_params" = some (.ref D) := (hm _).trans rfl
  clear hm
  have I' : ∀ h', Sub g h' → InstAt h' hx (instObj 253 hd) 253 (some (hdrDict w.params hl th n)) := fun h' k => ⟨k _ _ (hg _ _ (by simpa using hxl) hI), rfl, rfl, k _ _ (hg _ _ (by simpa using hdl) hD)⟩
  refine wpAny_execs_cons ?_
  walk_at "m.step"
  refine List_ (args0 ?_)
  refine eNewList S (fun pl h2 hlt S2 => ?_) (by decide)
  refine sLocal S2 (fun h3 S3 => ?_) (by kernel_rfl) (by kernel_rfl)
  dsimp only
  repeat' walk_at "m.step"
  refine wpAny_isNot_other (by rfl) (fun e => nomatch e) ?_
  repeat' walk_at "m.step"
  rw [if_pos rfl]
  walk_at "m.step"
  walk_at "m.step"
  refine eMeth ?_
  walk_at "m.step"
  refine eConv (b := false) (x := y) (t := u) S3 B (Room.mono (R' _) (by decide)) (I' _ S3.F.keep) hV (by walk_at "m.look") rfl (by kernel_rfl) (by decide) fun h4 t4 S4 k4 => ?_
  refine sLocal S4 (fun h5 S5 => ?_) (by kernel_rfl) (by kernel_rfl)
  dsimp only
  walk_at "m.step"
  refine wpAny_Expr (eMeth ?_)
  walk_at "m.step"
  refine listMethod_K S5.N (.head _) PySem.F.slot_list_append PySem.F.type_list_append ?_
  refine callWith_val (by rfl) (by rfl) (fun a e => nomatch e) (args1 ?_)
  walk_at "m.step"
  refine kw0 ?_
  refine eAppend S5 (fun h6 S6 => ?_) (by decide)
  dsimp only
  repeat' walk_at "m.step"
  have hDo := (S6.N (D, dictOf [] 0) (.tail _ (.head _)))
  refine eFor (eMeth ?_)
  walk_at "m.step"
  refine getMethod_builtin (T := "dict") ⟨_, hDo.1, rfl⟩ PySem.F.plainAttrs_dict PySem.F.slot_dict_items PySem.F.type_dict_items (fun a e => by cases e; exact ⟨_, hDo.1, rfl⟩) ?_
  refine callWith_val (by rfl) (by rfl) (fun a e => nomatch e) (args0 (kw0 ?_))
  have hdo : (dictOf [] 0).IsDictOf (strKind pw w) ([] : List (Str × Value)) := kp_isDict (w := w) (ex := []) 0 0 (by simp)
  refine kdx_view (knd := strKind pw w) (kvs := []) S6.F S6.N (.tail _ (.head _)) hdo hDm fun vw h7 F7 N7 lt7 => ?_
  have S7 : St g L _ ((vw, { cls := .type "dict_items", data := .fields #[.ref D] }) :: _) h7 := ⟨F7, N7, by
    rw [List.map_cons, List.nodup_cons]
    refine ⟨fun q => ?_, S6.nd⟩
    obtain ⟨p, hp, e⟩ := List.mem_map.mp q
    exact absurd (show p.1 = vw from e) (Nat.ne_of_lt (lt7 p hp))⟩
  refine eForItemsNone (R' (envX "Headers.add_header" (fScope (stmIn 13 16)) L 250 (.ref 249) [])).handled S7 (d := D) ⟨_, S7.getHead, rfl, rfl⟩ ⟨_, _, (S7.N _ (.tail _ (.tail _ (.head _)))).1, ⟨rfl, rfl, rfl⟩, rfl, fun e he => by simp at he, .nil, by simp⟩ fun h8 S8 => ?_
  dsimp only
  walk_at "m.step"
  refine wpAny_Expr (eMeth (Attribute_name ?_))
  walk_at "m.step"
  refine get_own S8.F B.X (I' _ S8.F.keep) (by kernel_rfl) (by kernel_rfl) (by rfl : findIn (K w.params) (.ref 253) "_headers" = some none) (by kernel_rfl) (by rfl) (by kernel_rfl) ?_
  have hlm := S8.N (hl, listOf rs.toArray k) (.tail _ (.tail _ (.tail _ (.head _))))
  refine listMethod_K S8.N (D := hl) (its := rs.toArray) (n := k) (.tail _ (.tail _ (.tail _ (.head _)))) PySem.F.slot_list_append PySem.F.type_list_append ?_
  refine callWith_val (by rfl) (by rfl) (fun a e => nomatch e) (args1 (Tuple_ (args2 ?_)))
  refine eMeth ?_
  walk_at "m.step"
  refine eConv (b := true) (x := x) (t := t) S8 B (Room.mono (R' _) (by decide)) (I' _ S8.F.keep) hN (by walk_at "m.look") rfl (by kernel_rfl) (by decide) fun h9 t9 S9 k9 => ?_
  refine eMeth ?_
  walk_at "m.step"
  refine GM.join ?_
  refine callWith_val (by rfl) (by rfl) (fun a e => nomatch e) (args1 ?_)
  walk_at "m.step"
  refine kw0 ?_
  refine join_list (D := pl) (ys := [y]) ⟨_, (S9.N (pl, _) (by simp; exact .inr (.inl rfl))).1, rfl, _, rfl⟩ (.cons y u .nil) (by
    have e : (("; " : Str)).length = 2 := by decide +kernel
    show _ + _ * (("; " : Str)).length ≤ _
    simp only [List.map_cons, List.map_nil, List.sum_cons, List.sum_nil, List.length_cons, List.length_nil, e]
    omega) fun t10 k10 => ?_
  refine eNewTuple S9 (fun tp h11 hlt S11 => ?_) (Nat.le_of_ble_eq_true rfl)
  refine kw0 ?_
  have S12 := S11.perm (news' := [(hl, listOf rs.toArray k), (tp, tupOf [.str x t, .str (Txt.join "; " [y]) t10])]) (fun p hp => by
    rcases List.mem_cons.mp hp with rfl | hp
    · exact (.tail _ (.tail _ (.tail _ (.tail _ (.head _)))))
    · obtain rfl := List.mem_singleton.mp hp; exact .head _) (by
    have := S11.nd
    simp only [List.map_cons, List.nodup_cons, List.mem_cons, not_or, List.map_nil] at this ⊢
    exact ⟨⟨Ne.symm this.1.2.2.2.1, List.not_mem_nil⟩, List.not_mem_nil, List.nodup_nil⟩)
  refine eAppend S12 (fun h13 S13 => ?_) (by simp [sizeLine]; omega)
  dsimp only
  walk_at "m.step"
  refine S13.post' hL hg ⟨rfl, tp, k + 1, t10, ?_, ?_, ?_⟩
  · rw [S13.getHead]; simp
  · have e : Txt.join "; " [y] = y := by rfl
    rw [← e]
    exact (S13.N _ (.tail _ (.head _))).1
  · exact S13.new hg (.tail _ (.head _)) (by simpa using S13.fresh _ (.head _))
end
section
section
variable {w : World} {A : Around} {E : Value → Shared → Prop} {s : Shared} {env : Env} {pos : Pos} {g : Heap} {L : Addr} {m : Str → Option Value} {news : List (Addr × Obj)}
abbrev ownOf (h : Heap) (wr : List Addr) : List (Addr × Obj) := wr.map fun b => (b, (h.get? b).getD default)
theorem ownOf_map (h : Heap) (wr : List Addr) : (ownOf h wr).map (·.1) = wr := by
  rw [List.map_map]
  exact (List.map_congr_left (g := id) fun _ _ => rfl).trans (List.map_id _)
theorem ownOf_mem {h : Heap} {wr : List Addr} {p : Addr × Obj} (hp : p ∈ ownOf h wr) : p.1 ∈ wr ∧ p.2 = (h.get? p.1).getD default := by
  obtain ⟨b, hb, rfl⟩ := List.mem_map.mp hp
  exact ⟨hb, rfl⟩
theorem mem_ownOf {h : Heap} {wr : List Addr} {b : Addr} (hb : b ∈ wr) : (b, (h.get? b).getD default) ∈ ownOf h wr := List.mem_map.mpr ⟨b, hb, rfl⟩
/-- some objects of the ledger have changed, and nothing else -/
theorem St.change {own own' : List (Addr × Obj)} {h h' : Heap} (S : St g L m (own ++ news) h) (e : own'.map (·.1) = own.map (·.1)) (k : ∀ b o, b ∉ own.map (·.1) → h.get? b = some o → h'.get? b = some o) (ho : ∀ p ∈ own', h'.get? p.1 = some p.2) : St g L m (own' ++ news) h' := by
  have nL : L ∉ own.map (·.1) := fun q => by
    obtain ⟨p, hp, e⟩ := List.mem_map.mp q
    exact (S.N p (List.mem_append_left _ hp)).2.1 e
  have nb : ∀ b o, g.get? b = some o → b ∉ own.map (·.1) := fun b o e q => by
    obtain ⟨p, hp, rfl⟩ := List.mem_map.mp q
    rw [(S.N p (List.mem_append_left _ hp)).2.2] at e; cases e
  obtain ⟨oL, es, ep, hL, r⟩ := S.F.ns
  refine ⟨⟨⟨oL, es, ep, k _ _ nL hL, r⟩, fun b o e => k b o (nb b o e) (S.F.keep b o e), S.F.above⟩, fun p hp => ?_, ?_⟩
  · rcases List.mem_append.mp hp with hp | hp
    · have hm : p.1 ∈ own.map (·.1) := e ▸ List.mem_map_of_mem hp
      obtain ⟨p', hp', e'⟩ := List.mem_map.mp hm
      have P := S.N p' (List.mem_append_left _ hp')
      rw [e'] at P
      exact ⟨ho p hp, P.2⟩
    · have P := S.N p (List.mem_append_right _ hp)
      refine ⟨k _ _ (fun q => ?_) P.1, P.2⟩
      have nd := S.nd
      rw [List.map_append, List.nodup_append] at nd
      exact nd.2.2 _ q _ (List.mem_map_of_mem hp) rfl
  · have nd := S.nd
    rw [List.map_append] at nd ⊢
    rw [e]; exact nd
theorem St.right {own : List (Addr × Obj)} {h : Heap} (S : St g L m (own ++ news) h) : St g L m news h :=
  S.perm (fun p hp => List.mem_append_right _ hp) (by have nd := S.nd; rw [List.map_append, List.nodup_append] at nd; exact nd.2.1)
theorem ownOf_same {own : List Addr} {h h' : Heap} (S : St g L m (ownOf h own ++ news) h') : ownOf h' own = ownOf h own := by
  refine List.map_congr_left fun b hb => ?_
  have q := (S.N _ (List.mem_append_left _ (mem_ownOf (h := h) hb))).1
  rw [show h'.get? b = some ((h.get? b).getD default) from q]
  rfl
theorem St.drops {wr : List Addr} {h h' : Heap} (S : St g L m (ownOf h wr ++ news) h) (k : ∀ b o, b ∉ wr → h.get? b = some o → h'.get? b = some o) : St g L m news h' := by
  have nL : L ∉ wr := fun q => (S.N _ (List.mem_append_left _ (mem_ownOf (h := h) q))).2.1 rfl
  have nb : ∀ b o, g.get? b = some o → b ∉ wr := fun b o e q => by
    have := (S.N _ (List.mem_append_left _ (mem_ownOf (h := h) q))).2.2
    rw [show g.get? b = none from this] at e; cases e
  obtain ⟨oL, es, ep, hL, r⟩ := S.F.ns
  have nd := S.nd
  rw [List.map_append, List.nodup_append, ownOf_map] at nd
  refine ⟨⟨⟨oL, es, ep, k _ _ nL hL, r⟩, fun b o e => k b o (nb b o e) (S.F.keep b o e), S.F.above⟩, fun p hp => ?_, nd.2.1⟩
  have P := S.N p (List.mem_append_right _ hp)
  exact ⟨k _ _ (fun q => nd.2.2 _ q _ (List.mem_map_of_mem hp) rfl) P.1, P.2⟩
theorem ownOf_at {wr : List Addr} {h : Heap} (ex : ∀ b ∈ wr, ∃ o, h.get? b = some o) : ∀ p ∈ ownOf h wr, h.get? p.1 = some p.2 := fun p hp => by
  obtain ⟨hb, e⟩ := ownOf_mem hp
  obtain ⟨o, ho⟩ := ex _ hb
  rw [e, ho]; rfl
/-- a for over what gives n values -/
theorem eForT {target : Expr} {body : List Stmt} {Q : Flow → Shared → Prop} {I : Addr} {fp wr : List Addr} {n : Nat} {P Md : Nat → Value → Heap → Prop} {Sx : Nat → Heap → Prop}
    (W : KTurns pw w A target I fp wr n P Md Sx) (hex : ∀ i h, Sx i h → ∀ b ∈ wr, ∃ o, h.get? b = some o) (hst : Sx 0 s.heap) (S : St g L m (ownOf s.heap wr ++ news) s.heap)
    (J : Nat → (Str → Option Value) → List (Addr × Obj) → Prop) (hJ : J 0 m news)
    (hsrc : ∀ b ∈ fp, b ∉ wr → ∃ o, ∀ i m₁ news₁ h, J i m₁ news₁ → St g L m₁ news₁ h → h.get? b = some o)
    (turn : ∀ i v own m₁ news₁ h t, i < n → P i v h → J i m₁ news₁ → St g L m₁ (own ++ news₁) h →
      wpAny (model pw w) A (assign target env v) (fun _ s₂ => wpAny (model pw w) A (execs body env) (fun f s₃ => match f with
        | .next | .cont => ∃ m₂ news₂ h' t', s₃ = { s with heap := h', toks := t' } ∧ J (i + 1) m₂ news₂ ∧ St g L m₂ (own ++ news₂) h'
        | .brk => Q .next s₃
        | .ret v => Q (.ret v) s₃) Bot s₂) Bot { s with heap := h, toks := t })
    (done : ∀ m₁ news₁ h t, J n m₁ news₁ → St g L m₁ news₁ h → Q .next { s with heap := h, toks := t }) :
    codeAny (model pw w) A (.forLoop target (.ref I) body [] env) (fun r s' => match r with | .ok f => Q f s' | .error e => cameBackBy (model pw w) A env E e s') s := by
  refine codeAny_forLoop_any (R := fun r s' => match r with | .ok f => Q f s' | .error e => cameBackBy (model pw w) A env E e s')
    (fun k s' => ∃ i m₁ news₁ h t, k = n - i ∧ i ≤ n ∧ s' = { s with heap := h, toks := t } ∧ J i m₁ news₁ ∧ St g L m₁ (ownOf h wr ++ news₁) h ∧ Sx i h)
    ?_ n ⟨0, m, news, s.heap, s.toks, rfl, Nat.zero_le _, rfl, hJ, S, hst⟩
  rintro k s' ⟨i, m₁, news₁, h, t, rfl, hi, rfl, hJ, S1, hx⟩
  refine cut (fun r s₁ => match r with
    | none => Q .next s₁
    | some v => wpAny (model pw w) A (letOwnedTupleGo target (.ref I) v) (fun _ s₁' => wpAny (model pw w) A (assign target env v) (fun _ s₂ => wpAny (model pw w) A (execs body env) (fun f s₃ => match f with
        | .next | .cont => ∃ k, k < n - i ∧ ∃ i m₁ news₁ h t, k = n - i ∧ i ≤ n ∧ s₃ = { s with heap := h, toks := t } ∧ J i m₁ news₁ ∧ St g L m₁ (ownOf h wr ++ news₁) h ∧ Sx i h
        | .brk => Q .next s₃
        | .ret v => Q (.ret v) s₃) Bot s₂) Bot s₁') Bot s₁) ?_ ?_
  · by_cases hlt : i < n
    · refine W.item i _ _ _ hlt hx fun v h1 t1 hMd k1 => ?_
      refine W.go i v _ _ _ hMd fun h2 hP hx2 k2 => ?_
      have S2 : St g L m₁ (ownOf h2 wr ++ news₁) h2 := S1.change (by rw [ownOf_map, ownOf_map]) (fun b o nb e => by
        rw [ownOf_map] at nb
        exact k2 b o nb (k1 b o nb e)) (ownOf_at (hex _ _ hx2))
      refine cut _ (turn i v _ m₁ news₁ h2 t1 hlt hP hJ S2) fun _ s₂ h₂ => cut _ h₂ fun f s₃ h₃ => ?_
      have fin : (∃ m₂ news₂ h' t', s₃ = { s with heap := h', toks := t' } ∧ J (i + 1) m₂ news₂ ∧ St g L m₂ (ownOf h2 wr ++ news₂) h') →
          ∃ k, k < n - i ∧ ∃ i m₁ news₁ h t, k = n - i ∧ i ≤ n ∧ s₃ = { s with heap := h, toks := t } ∧ J i m₁ news₁ ∧ St g L m₁ (ownOf h wr ++ news₁) h ∧ Sx i h := by
        rintro ⟨m₂, news₂, h', t', e, hJ', S'⟩
        have eo := ownOf_same S'
        refine ⟨n - (i + 1), by omega, i + 1, m₂, news₂, h', t', rfl, hlt, e, hJ', eo ▸ S', W.frame _ _ _ hx2 fun b hb o ho => ?_⟩
        by_cases hw : b ∈ wr
        · have q := (S'.N _ (List.mem_append_left _ (mem_ownOf (h := h2) hw))).1
          rw [show h'.get? b = some ((h2.get? b).getD default) from q, ho]; rfl
        · obtain ⟨o', ho'⟩ := hsrc b hb hw
          rw [ho' _ _ _ _ hJ S2.right] at ho
          rw [ho' _ _ _ _ hJ' S'.right, ho]
      cases f with
      | next => exact fin h₃
      | cont => exact fin h₃
      | brk => exact h₃
      | ret v => exact h₃
    · have e : i = n := by omega
      subst e
      exact W.done _ _ _ hx fun h' t' k' => done m₁ news₁ h' t' hJ (S1.drops k')
  · intro r s₁ hr
    cases r with
    | none => exact wpAny_execs_nil hr
    | some v =>
      refine cut _ hr fun _ s₁' h₁ => cut _ h₁ fun _ s₂ h₂ => cut _ h₂ fun f s₃ h₃ => ?_
      cases f <;> exact h₃
end
end
section
section
variable {w : World} {A : Around} {E : Value → Shared → Prop} {s : Shared} {env : Env} {pos : Pos} {g₀ : Heap} {L : Addr} {m mg mb : Str → Option Value} {news : List (Addr × Obj)}
/-- what gives n values, one by one -/
structure Feed (w : World) (A : Around) (target : Expr) (I : Addr) (fp wr : List Addr) (n : Nat) (P Md : Nat → Value → Heap → Prop) (Sx : Nat → Heap → Prop) : Prop where
  turns : KTurns pw w A target I fp wr n P Md Sx
  self : ∀ i (s : Shared) (Q : Value → Shared → Prop) (E : Value → Shared → Prop), Sx i s.heap → Q (.ref I) s → wpAny (model pw w) A (pyIter (.ref I)) Q E s
  ex : ∀ i h, Sx i h → ∀ b ∈ wr, ∃ o, h.get? b = some o
abbrev Tests (ifs : List Expr) (env : Env) : Sem Bool := forIn ifs true fun c r => if r = true then do let ok ← isTrue c env (eval c env); pure (ForInStep.yield ok) else pure (ForInStep.yield r)
theorem codeAny_compLoopG {R : Result → Shared → Prop} {elt target iter : Expr} {ifs : List Expr} {scope : Scope} {it acc : Value} (I : Nat → Shared → Prop)
    (turn : ∀ n s, I n s → wpAny (model pw w) A (pyNext it) (fun r s₁ => match r with
      | none => R (.ok .next) s₁
      | some v => wpAny (model pw w) A (letOwnedTupleGo target it v) (fun _ s₁' => wpAny (model pw w) A (assign target env v) (fun _ s₂ =>
          wpAny (model pw w) A (Tests ifs env) (fun ok s₃ =>
            if ok = true then wpAny (model pw w) A (eval elt env) (fun x s₄ =>
              wpAny (model pw w) A (call (.builtin "list.append") [acc, x]) (fun _ s₅ => ∃ m, m < n ∧ I m s₅) Bot s₄) Bot s₃
            else ∃ m, m < n ∧ I m s₃) Bot s₂) Bot s₁') Bot s₁) Bot s)
    (n : Nat) (h : I n s) :
    codeAny (model pw w) A (.compLoop (.ListComp elt [⟨target, iter, ifs, 0⟩] scope pos) 0 it acc env) R s := by
  refine codeAny_loop rfl I (fun n s hI => ?_) n h
  show wpAny _ A ((compTurn (.ListComp elt [⟨target, iter, ifs, 0⟩] scope pos) 0 it acc env).onRaise (fun x => do noteFrame x env; theTreesLotGoes x)) _ _ s
  refine wpAny_noted ?_
  rw [compTurn_list]
  refine wpAny_bind (wpAny_standAt (wpAny_bind (cut _ (turn n s hI) (fun r s₁ h₁ => ?_))))
  cases r with
  | none => exact wpAny_pure h₁
  | some v =>
    refine wpAny_bind (cut _ h₁ fun _ s₁' h₁' => wpAny_bind (cut _ h₁' fun _ s₂ h₂ => wpAny_bind (cut _ h₂ fun ok s₃ h₃ => ?_)))
    cases ok with
    | false => exact wpAny_pure ⟨rfl, h₃⟩
    | true =>
      exact wpAny_bind (wpAny_bind (cut _ h₃ fun x s₄ h₄ => wpAny_bind (cut _ h₄ fun _ s₅ h₅ => wpAny_pure (wpAny_pure ⟨rfl, h₅⟩))))
theorem compBlock {elt target iter : Expr} {ifs : List Expr} {scope : Scope} {cl : List (Str × Addr)} {I : Addr} {fp wr : List Addr} {n : Nat} {P Md : Nat → Value → Heap → Prop} {Sx : Nat → Heap → Prop} {RR : Value → Addr → Result → Shared → Prop}
    (W : Feed w A target I fp wr n P Md Sx) (hsrc : ∀ b ∈ fp, b ∉ wr → ∃ o, s.heap.get? b = some o) (hst : Sx 0 s.heap) (S : St g₀ L m (ownOf s.heap wr ++ news) s.heap) (B : Base w mg mb g₀)
    (hcell : ∀ y ∈ scope.names, y.2 ≠ .cell) (hkind : scope.kind = .function) (J : Nat → Array Value → Prop) (J0 : J 0 #[]) (hn : n ≤ 1000)
    (turn : ∀ g C D i v own m₁ ys k h t, Base w mg mb g → (∀ b o, b ∉ wr → s.heap.get? b = some o → g.get? b = some o) → i < n → P i v h → J i ys → St g C m₁ ((D, listOf ys k) :: own) h →
      wpAny (model pw w) A (assign target (compEnvC scope cl C env) v) (fun _ s₂ => wpAny (model pw w) A (Tests ifs (compEnvC scope cl C env)) (fun ok s₃ =>
        if ok = true then wpAny (model pw w) A (eval elt (compEnvC scope cl C env)) (fun y s₄ => ∃ m₂ h' t', s₄ = { s with heap := h', toks := t' } ∧ St g C m₂ ((D, listOf ys k) :: own) h' ∧ J (i + 1) (ys.push y)) Bot s₃
        else ∃ m₂ h' t', s₃ = { s with heap := h', toks := t' } ∧ St g C m₂ ((D, listOf ys k) :: own) h' ∧ J (i + 1) ys) Bot s₂) Bot { s with heap := h, toks := t })
    (fin : ∀ D C oC ys k h t, (∀ h' : Heap, h'.get? C = some oC → ∃ mC, h'.Ns C mC) → St g₀ L m ((C, oC) :: (D, listOf ys k) :: news) h → J n ys → RR (.ref D) C (.ok .next) { s with heap := h, toks := t }) :
    wpAny (model pw w) A (newList []) (fun acc s₃ => wpAny (model pw w) A (newFunctionEnv scope env.globals cl [] env.qual none .none (some env)) (fun cenv s₄ =>
      codeAny (model pw w) A (.compStart (.ListComp elt [⟨target, iter, ifs, 0⟩] scope pos) 0 (.ref I) acc { cenv with scope := relabel scope env }) (RR acc cenv.locals) s₄) E s₃) E s := by
  refine wpAny_newList ?_ (by decide)
  refine wpAny_newFunctionEnv hcell (by intro y hy; simp at hy) (fun h₁ hns₁ hsb₁ => ?_) hkind
  dsimp only at hns₁ hsb₁ ⊢
  have hk1 : Sub s.heap (s.heap.push (listOf ([] : List Value).toArray 0)) := fun b o e => Heap.get?_push_of_some _ e
  have hD1 : (s.heap.push (listOf ([] : List Value).toArray 0)).get? s.heap.objs.size = some (listOf ([] : List Value).toArray 0) := Heap.get?_push_size _ rfl
  have hDn : s.heap.get? s.heap.objs.size = none := by
    cases q : s.heap.get? s.heap.objs.size with
    | none => rfl
    | some o => exact absurd (Heap.lt_size q) (Nat.lt_irrefl _)
  have hz2 : (s.heap.push (listOf ([] : List Value).toArray 0)).objs.size = s.heap.objs.size + 1 := Heap.size_push ..
  generalize s.heap.push (listOf ([] : List Value).toArray 0) = H2 at hns₁ hsb₁ hk1 hD1 hz2 ⊢
  generalize eD : s.heap.objs.size = D at hD1 hDn hz2 ⊢
  have hCn : H2.get? H2.objs.size = none := by
    cases q : H2.get? H2.objs.size with
    | none => rfl
    | some o => exact absurd (Heap.lt_size q) (Nat.lt_irrefl _)
  have hk2 : Sub H2 h₁ := fun b o e => hsb₁.extBut b o (Nat.ne_of_lt (Heap.lt_size e)) (Heap.get?_push_of_some _ e)
  have hkk : Sub s.heap h₁ := fun b o e => hk2 _ _ (hk1 _ _ e)
  generalize eC : H2.objs.size = C at hns₁ hCn ⊢
  have hDC : D ≠ C := by omega
  have hDw : D ∉ wr := fun q => by
    obtain ⟨o, ho⟩ := W.ex _ _ hst _ q
    rw [hDn] at ho; cases ho
  have hCw : C ∉ wr := fun q => by
    obtain ⟨o, ho⟩ := W.ex _ _ hst _ q
    rw [hk1 _ _ ho] at hCn; cases hCn
  have hgw : ∀ b o, g₀.get? b = some o → b ∉ wr := fun b o e q => by
    have := (S.N _ (List.mem_append_left _ (mem_ownOf (h := s.heap) q))).2.2
    rw [show g₀.get? b = none from this] at e; cases e
  have hwn : wr.Nodup := by
    have := S.nd
    rw [List.map_append, List.nodup_append, ownOf_map] at this
    exact this.1
  have hex1 : ∀ b ∈ wr, ∃ o, h₁.get? b = some o := fun b hb => let ⟨o, ho⟩ := W.ex _ _ hst b hb; ⟨o, hkk _ _ ho⟩
  have Bg : Base w mg mb (hideAll s.heap wr) := B.keeps fun b o e => hideAll_get _ (S.F.keep _ _ e) (hgw b o e)
  have hgs : ∀ b o, b ∉ wr → s.heap.get? b = some o → (hideAll s.heap wr).get? b = some o := fun b o nb e => hideAll_get _ e nb
  have Sg : St (hideAll s.heap wr) C (fun x => ([] : List (Str × Value)).reverse.lookup x) ((D, listOf #[] 0) :: ownOf h₁ wr) h₁ := by
    have gn : ∀ b, s.heap.get? b = none → (hideAll s.heap wr).get? b = none := fun b e => by
      cases q : (hideAll s.heap wr).get? b with
      | none => rfl
      | some o => rw [of_hideAll _ q] at e; cases e
    refine ⟨⟨hns₁, fun b o e => hkk b o (of_hideAll _ e), by rw [hideAll_size]; omega⟩, fun p hp => ?_, ?_⟩
    · rcases List.mem_cons.mp hp with rfl | hp
      · exact ⟨hk2 _ _ hD1, hDC, gn _ hDn⟩
      · obtain ⟨hb, e⟩ := ownOf_mem hp
        exact ⟨ownOf_at hex1 p hp, fun q => hCw (q ▸ hb), hideAll_none _ hb⟩
    · rw [List.map_cons, ownOf_map, List.nodup_cons]
      exact ⟨hDw, hwn⟩
  have hx1 : Sx 0 h₁ := W.turns.frame _ _ _ hst fun b hb o e => hkk b o e
  have loop : ∀ s₃ : Shared, s₃ = { s with heap := h₁, toks := s.toks + ([] : List (Str × Value)).length } →
      codeAny (model pw w) A (.compLoop (.ListComp elt [⟨target, iter, ifs, 0⟩] scope pos) 0 (.ref I) (.ref D) (compEnvC scope cl C env)) (RR (.ref D) C) s₃ := by
    rintro s₃ rfl
    refine codeAny_compLoopG (env := compEnvC scope cl C env)
      (fun q s' => ∃ i m₁ ys k h t, q = n - i ∧ i ≤ n ∧ ys.size ≤ i ∧ s' = { s with heap := h, toks := t } ∧ J i ys ∧ St (hideAll s.heap wr) C m₁ ((D, listOf ys k) :: ownOf h wr) h ∧ Sx i h)
      ?_ n ⟨0, _, #[], 0, h₁, _, rfl, Nat.zero_le _, Nat.le_refl _, rfl, J0, Sg, hx1⟩
    rintro q s' ⟨i, m₁, ys, k, h, t, rfl, hi, hys, rfl, hJ, S1, hx⟩
    have app1 : ∀ {u v : List (Addr × Obj)} {h : Heap} {m₁}, St (hideAll s.heap wr) C m₁ (u ++ v) h → St (hideAll s.heap wr) C m₁ (v ++ u) h := fun S => S.perm (fun p hp => by rw [List.mem_append] at hp ⊢; exact hp.symm) (by
      have := S.nd
      rw [List.map_append, List.nodup_append] at this ⊢
      exact ⟨this.2.1, this.1, fun a ha b hb e => this.2.2 b hb a ha e.symm⟩)
    by_cases hlt : i < n
    · refine W.turns.item i _ _ _ hlt hx fun v h1 t1 hMd k1 => ?_
      refine W.turns.go i v _ _ _ hMd fun h2 hP hx2 k2 => ?_
      have S2 : St (hideAll s.heap wr) C m₁ ((D, listOf ys k) :: ownOf h2 wr) h2 := app1 (u := ownOf h2 wr) (v := [(D, listOf ys k)]) (St.change (app1 (u := [(D, listOf ys k)]) S1) (by rw [ownOf_map, ownOf_map]) (fun b o nb e => by
        rw [ownOf_map] at nb
        exact k2 b o nb (k1 b o nb e)) (ownOf_at (W.ex _ _ hx2)))
      have frame : ∀ {m₂ h' ys' k'}, St (hideAll s.heap wr) C m₂ ((D, listOf ys' k') :: ownOf h2 wr) h' → St (hideAll s.heap wr) C m₂ ((D, listOf ys' k') :: ownOf h' wr) h' ∧ Sx (i + 1) h' := fun {m₂ h' ys' k'} S' => by
        have eo := ownOf_same (app1 (u := [(D, listOf ys' k')]) S')
        refine ⟨eo ▸ S', W.turns.frame _ _ _ hx2 fun b hb o ho => ?_⟩
        by_cases hw : b ∈ wr
        · have q := (S'.N _ (List.mem_cons_of_mem _ (mem_ownOf (h := h2) hw))).1
          rw [show h'.get? b = some ((h2.get? b).getD default) from q, ho]; rfl
        · obtain ⟨o', ho'⟩ := hsrc b hb hw
          rw [S2.F.keep _ _ (hgs _ _ hw ho')] at ho
          rw [S'.F.keep _ _ (hgs _ _ hw ho'), ho]
      refine cut _ (turn _ C D i v _ m₁ ys k h2 t1 Bg hgs hlt hP hJ S2) fun _ s₂ h₂ => cut _ h₂ fun ok s₃ h₃ => ?_
      cases ok with
      | false =>
        obtain ⟨m₂, h', t', rfl, S', hJ'⟩ := h₃
        obtain ⟨S'', hx'⟩ := frame S'
        exact ⟨n - (i + 1), by omega, i + 1, m₂, ys, k, h', t', rfl, hlt, Nat.le_succ_of_le hys, rfl, hJ', S'', hx'⟩
      | true =>
        refine cut _ h₃ ?_
        rintro y s₄ ⟨m₂, h', t', rfl, S', hJ'⟩
        refine eAppend S' (fun h'' S'' => ?_) (by simp [sizeLine]; omega)
        obtain ⟨S''', hx'⟩ := frame S''
        exact ⟨n - (i + 1), by omega, i + 1, m₂, ys.push y, k + 1, h'', t', rfl, hlt, by rw [Array.size_push]; omega, rfl, hJ', S''', hx'⟩
    · have e : i = n := by omega
      subst e
      refine W.turns.done _ _ _ hx fun h' t' k' => ?_
      have S3 := St.drops (app1 (u := [(D, listOf ys k)]) S1) k'
      obtain ⟨oC, es, ep, hC, rC⟩ := id S3.F.ns
      refine fin D C oC ys k h' t' (fun h'' e => ⟨_, oC, es, ep, e, rC⟩) ?_ hJ
      have keepS : ∀ b o, b ∉ wr → s.heap.get? b = some o → h'.get? b = some o := fun b o nb e => S3.F.keep _ _ (hgs b o nb e)
      have S4 : St g₀ L m news h' := S.drops keepS
      have S5 : St g₀ L m ((D, listOf ys k) :: news) h' := S.right.made S4 rfl S3.getHead hDn
      have S5' : St g₀ L m ((D, listOf ys k) :: news) h' := S5
      have hCs : s.heap.get? C = none := by
        cases q : s.heap.get? C with
        | none => rfl
        | some o => rw [hk1 _ _ q] at hCn; cases hCn
      refine ⟨S5.F, fun p hp => ?_, ?_⟩
      · rcases List.mem_cons.mp hp with rfl | hp
        · exact ⟨hC, (St.made (o := oC) S.right S4 rfl hC hCs).N _ (.head _) |>.2⟩
        · exact S5.N p hp
      · have z := (St.made (o := oC) S.right S4 rfl hC hCs).nd
        have z2 := S5.nd
        simp only [List.map_cons, List.nodup_cons, List.mem_cons, not_or] at z z2 ⊢
        exact ⟨⟨Ne.symm hDC, z.1⟩, z2⟩
  exact codeAny_compStart_list (loop _ rfl) (W.self 0 _ _ _ hx1 (loop _ rfl))
end
end
section
section
variable {w : World} {A : Around} {E : Value → Shared → Prop} {s : Shared} {env : Env} {pos : Pos} {g₀ : Heap} {L : Addr} {m mg mb : Str → Option Value} {news : List (Addr × Obj)}
/-- an iterator stands, made since s -/
def Fed (w : World) (A : Around) (target : Expr) (n : Nat) (P : Nat → Value → Heap → Prop) (g : Heap) (L : Addr) (m : Str → Option Value) (news : List (Addr × Obj)) (s : Shared) (it : Value) (s' : Shared) : Prop :=
  ∃ I fp wr Md Sx h' t', it = .ref I ∧ s' = { s with heap := h', toks := t' } ∧ Feed w A target I fp wr n P Md Sx ∧ Sx 0 h' ∧ St g L m (ownOf h' wr ++ news) h' ∧ Sub s.heap h' ∧ (∀ b ∈ wr, s.heap.get? b = none) ∧ (∀ b ∈ fp, b ∉ wr → ∃ o, s.heap.get? b = some o)
theorem get_push_one {h : Heap} {o : Obj} (hf : o.isFreed = false) : ownOf (h.push o) [h.objs.size] = [(h.objs.size, o)] := by
  show [(h.objs.size, ((h.push o).get? h.objs.size).getD default)] = _
  rw [Heap.get?_push_size _ hf]; rfl
theorem size_none (h : Heap) : h.get? h.objs.size = none := by
  cases q : h.get? h.objs.size with
  | none => rfl
  | some o => exact absurd (Heap.lt_size q) (Nat.lt_irrefl _)
theorem fed_of {target : Expr} {n : Nat} {P : Nat → Value → Prop} {fp : List Addr} {Sx : Nat → Heap → Prop} {o : Obj} (S : St g₀ L m news s.heap) (hf : o.isFreed = false)
    (W : Walks pw w A s.heap.objs.size fp [s.heap.objs.size] n P Sx) (hgo : ∀ i v (s' : Shared) (Q : Unit → Shared → Prop) (E : Value → Shared → Prop), Sx i s'.heap → Q () s' → wpAny (model pw w) A (letOwnedTupleGo target (.ref s.heap.objs.size) v) Q E s')
    (hex : ∀ i h, Sx i h → ∃ o, h.get? s.heap.objs.size = some o) (h0 : Sx 0 (s.heap.push o)) (hsrc : ∀ b ∈ fp, b ≠ s.heap.objs.size → ∃ o, s.heap.get? b = some o) :
    Fed w A target n (fun i v _ => P i v) g₀ L m news s (.ref s.heap.objs.size) { s with heap := s.heap.push o } :=
  ⟨_, fp, [s.heap.objs.size], _, Sx, _, s.toks, rfl, rfl, ⟨.ofWalks W hgo, W.self, fun i h hx b hb => by rcases List.mem_singleton.mp hb with rfl; exact hex i h hx⟩, h0, by
    rw [get_push_one hf]; exact S.push o hf, fun b o e => Heap.get?_push_of_some _ e, fun b hb => by rcases List.mem_singleton.mp hb with rfl; exact size_none _, fun b hb nb => hsrc b hb (by simpa using nb)⟩
theorem iter_list {l : Addr} {items : Array Value} {target : Expr} (hh : A.handled = none) (S : St g₀ L m news s.heap) (hl : s.heap.IsList l items)
    (ht : ∀ (it : Addr) (v : Value) (i : Nat) (s₁ : Shared) (P : Unit → Shared → Prop) (E : Value → Shared → Prop), s₁.heap.IsListIter it l i → P () s₁ → wpAny (model pw w) A (letOwnedTupleGo target (.ref it) v) P E s₁) :
    wpAny (model pw w) A (pyIter (.ref l)) (Fed w A target items.size (fun i v _ => items[i]? = some v) g₀ L m news s) E s := by
  refine wpAny_pyIter_list hl ?_
  obtain ⟨ol, hol, r⟩ := id hl
  have hne : l ≠ s.heap.objs.size := Nat.ne_of_lt (Heap.lt_size hol)
  refine fed_of S rfl (Walks.list hh _ l hne items) (fun i v s' Q E hx hQ => ht _ v i s' Q E hx.1 hQ) (fun i h hx => let ⟨o, ho, _⟩ := hx.1; ⟨o, ho⟩) ⟨⟨_, Heap.get?_push_size _ rfl, rfl, rfl⟩, ⟨ol, Heap.get?_push_of_some _ hol, r⟩⟩ fun b hb nb => ?_
  simp at hb
  rcases hb with rfl | rfl
  · exact absurd rfl nb
  · exact ⟨_, hol⟩
theorem iter_range {r : Addr} {n : Nat} {a : Int} {t u v : Tok} {x : Str} {px : Pos} (hh : A.handled = none) (S : St g₀ L m news s.heap) (hr : IsRange s.heap r a (a + n) 1 t u v) (hsm : Builtin.Range.small a (a + n) 1 = true) :
    wpAny (model pw w) A (pyIter (.ref r)) (Fed w A (.Name x px) n (fun i v _ => ∃ t, v = .int (a + (i : Int)) t) g₀ L m news s) E s := by
  refine wpAny_pyIter_range hr hsm ?_
  have hn : Builtin.Range.rangeSize a (a + n) 1 = (n : Int) := by
    unfold Builtin.Range.rangeSize; simp; omega
  rw [hn]
  refine fed_of S rfl (LCg.range_walks hh a n) (fun i v s' Q E _ hQ => wpAny_pure hQ) (fun i h hx => ⟨_, hx⟩) ?_ (fun b hb nb => absurd (by simpa using hb) nb)
  show Heap.get? _ _ = _
  rw [Heap.get?_push_size _ rfl]
  simp [rawInt]
theorem iter_str {x y : Str} {px : Pos} {t : Tok} (hh : A.handled = none) (S : St g₀ L m news s.heap) :
    wpAny (model pw w) A (pyIter (.str x t)) (Fed w A (.Name y px) x.cps.size (fun i v _ => SignAt x i v) g₀ L m news s) E s := by
  cases ha : x.cps.all (· < 128)
  · exact wpAny_pyIter_wide ha (fed_of S rfl (Walks.strWide hh _ x t) (fun i v s' Q E _ hQ => wpAny_pure hQ) (fun i h hx => let ⟨o, ho, _⟩ := hx; ⟨o, ho⟩) ⟨_, Heap.get?_push_size _ rfl, rfl, rfl⟩ (fun b hb nb => absurd (by simpa using hb) nb))
  · exact wpAny_pyIter_ascii ha (fed_of S rfl (Walks.strAscii hh _ x t) (fun i v s' Q E _ hQ => wpAny_pure hQ) (fun i h hx => let ⟨o, ho, _⟩ := hx; ⟨o, ho⟩) ⟨_, Heap.get?_push_size _ rfl, rfl, rfl⟩ (fun b hb nb => absurd (by simpa using hb) nb))
/-- one turn of a comprehension -/
def CompTurn (w : World) (mg mb : Str → Option Value) (A : Around) (env : Env) (scope : Scope) (cl : List (Str × Addr)) (target : Expr) (ifs : List Expr) (elt : Expr) (n : Nat) (P : Nat → Value → Heap → Prop) (J : Nat → Array Value → Prop) (s : Shared) : Prop :=
  ∀ g C D i v own m₁ ys k h t, Base w mg mb g → Sub s.heap g → i < n → P i v h → J i ys → St g C m₁ ((D, listOf ys k) :: own) h →
      wpAny (model pw w) A (assign target (compEnvC scope cl C env) v) (fun _ s₂ => wpAny (model pw w) A (Tests ifs (compEnvC scope cl C env)) (fun ok s₃ =>
        if ok = true then wpAny (model pw w) A (eval elt (compEnvC scope cl C env)) (fun y s₄ => ∃ m₂ h' t', s₄ = { s with heap := h', toks := t' } ∧ St g C m₂ ((D, listOf ys k) :: own) h' ∧ J (i + 1) (ys.push y)) Bot s₃
        else ∃ m₂ h' t', s₃ = { s with heap := h', toks := t' } ∧ St g C m₂ ((D, listOf ys k) :: own) h' ∧ J (i + 1) ys) Bot s₂) Bot { s with heap := h, toks := t }
theorem fed_block {elt target iter : Expr} {ifs : List Expr} {scope : Scope} {cl : List (Str × Addr)} {it : Value} {n : Nat} {P : Nat → Value → Heap → Prop} {J : Nat → Array Value → Prop} {RR : Value → Addr → Result → Shared → Prop} {s₀ s₂ : Shared}
    (F : Fed w A target n P g₀ L m news s₀ it s₂) (B : Base w mg mb g₀) (hcell : ∀ y ∈ scope.names, y.2 ≠ .cell) (hkind : scope.kind = .function) (J0 : J 0 #[]) (hn : n ≤ 1000) (T : CompTurn w mg mb A env scope cl target ifs elt n P J s₀)
    (fin : ∀ D C oC ys k h t, (∀ h' : Heap, h'.get? C = some oC → ∃ mC, h'.Ns C mC) → St g₀ L m ((C, oC) :: (D, listOf ys k) :: news) h → J n ys → RR (.ref D) C (.ok .next) { s₀ with heap := h, toks := t }) :
    wpAny (model pw w) A (newList []) (fun acc s₃ => wpAny (model pw w) A (newFunctionEnv scope env.globals cl [] env.qual none .none (some env)) (fun cenv s₄ =>
      codeAny (model pw w) A (.compStart (.ListComp elt [⟨target, iter, ifs, 0⟩] scope pos) 0 it acc { cenv with scope := relabel scope env }) (RR acc cenv.locals) s₄) E s₃) E s₂ := by
  obtain ⟨I, fp, wr, Md, Sx, h', t', rfl, rfl, W, hx, S, hk, hw, hs⟩ := F
  exact compBlock W (fun b hb nb => let ⟨o, ho⟩ := hs b hb nb; ⟨o, hk _ _ ho⟩) hx S B hcell hkind J J0 hn (fun g C D i v own m₁ ys k h t Bg hg => T g C D i v own m₁ ys k h t Bg fun b o e => hg b o (fun q => by rw [hw b q] at e; cases e) (hk b o e)) fin
/-- [elt for target in iter if ..], as a value -/
theorem eListComp {elt target iter : Expr} {ifs : List Expr} {scope : Scope} {cl : List (Str × Addr)} {Q : Value → Shared → Prop} (B : Base w mg mb g₀)
    (hclos : closureFor scope env = pure cl) (hcell : ∀ y ∈ scope.names, y.2 ≠ .cell) (hkind : scope.kind = .function) (hnames : ∀ y ∈ scope.names, y.2 = .local → scope.names.lookup y.1 = some .local)
    (h : wpAny (model pw w) A (eval iter env) (fun x s₁ => wpAny (model pw w) A (pyIter x) (fun it s₂ => ∃ s₀ n P news J, Fed w A target n P g₀ L m news s₀ it s₂ ∧ n ≤ 1000 ∧ J 0 #[] ∧ CompTurn w mg mb A env scope cl target ifs elt n P J s₀ ∧
      (∀ D ys k h t, St g₀ L m ((D, listOf ys k) :: news) h → J n ys → Q (.ref D) { s₀ with heap := h, toks := t })) Bot s₁) Bot s)
    (hs : ∀ x, foldedSetIterable iter env x = pure x := by intro _; rfl) :
    wpAny (model pw w) A (eval (.ListComp elt [⟨target, iter, ifs, 0⟩] scope pos) env) Q E s := by
  rw [eval_ListComp]
  refine bot (wpAny_comprehension_free (use := none) rfl hs hclos hkind hnames (cut _ h fun x s₁ h₁ => cut _ h₁ fun it s₂ h₂ => ?_))
  obtain ⟨s₀, n, P, news, J, F, hn, J0, T, fin⟩ := h₂
  refine fed_block (RR := fun acc C => compPost (model pw w) A Bot none Q acc C) F B hcell hkind J0 hn T fun D C oC ys k h t hC S hJ => ?_
  obtain ⟨mC, hCn⟩ := hC h S.getHead
  exact ⟨mC, hCn, fun h' hs' => fin D ys k h' t (S.off hs'.extBut) hJ⟩
/-- y = [elt for target in iter if ..], the stores exchanged -/
theorem aListComp {elt target iter : Expr} {ifs : List Expr} {scope : Scope} {cl : List (Str × Addr)} {y : Str} {py spos : Pos} {Q : Flow → Shared → Prop} (B : Base w mg mb g₀) (hL : env.locals = L)
    (hsw : swapsWith (.ListComp elt [⟨target, iter, ifs, 0⟩] scope pos) (some (.Name y py)) spos.line env = pure true)
    (hclos : closureFor scope env = pure cl) (hcell : ∀ y ∈ scope.names, y.2 ≠ .cell) (hkind : scope.kind = .function) (hnames : ∀ y ∈ scope.names, y.2 = .local → scope.names.lookup y.1 = some .local)
    (hy : env.kindOf y = some .local) (hp : (env.scope.kind == .class || (env.scope.kind == .module && env.locals != env.globals)) = false)
    (h : wpAny (model pw w) A (eval iter env) (fun x s₁ => wpAny (model pw w) A (pyIter x) (fun it s₂ => ∃ s₀ n P news J, Fed w A target n P g₀ L m news s₀ it s₂ ∧ n ≤ 1000 ∧ J 0 #[] ∧ CompTurn w mg mb A env scope cl target ifs elt n P J s₀ ∧
      (∀ D ys k h t, St g₀ L (fun z => if z = y then some (.ref D) else m z) ((D, listOf ys k) :: news) h → J n ys → Q .next { s₀ with heap := h, toks := t })) Bot s₁) Bot s)
    (hs : ∀ x, foldedSetIterable iter env x = pure x := by intro _; rfl) :
    wpAny (model pw w) A (exec (.Assign [.Name y py] (.ListComp elt [⟨target, iter, ifs, 0⟩] scope pos) spos) env) Q E s := by
  rw [exec_Assign_Name_used _ _ _ _ hsw]
  refine wpAny_bind (wpAny_standAt (wpAny_bind ?_))
  show wpAny _ A (do let _ ← comprehension (.ListComp elt [⟨target, iter, ifs, 0⟩] scope pos) scope env _ (newList []) false (eval iter env) (some (assign (.Name y py) env))) _ _ s
  refine wpAny_bind (wpAny_mono (bot (wpAny_comprehension_free (use := some (assign (.Name y py) env)) (Q := fun _ s' => Q .next s') rfl hs hclos hkind hnames (cut _ h fun x s₁ h₁ => cut _ h₁ fun it s₂ h₂ => ?_))) (fun _ s' hq => wpAny_pure (wpAny_pure hq)) fun _ _ e => e)
  obtain ⟨s₀, n, P, news, J, F, hn, J0, T, fin⟩ := h₂
  refine fed_block (RR := fun acc C => compPost (model pw w) A Bot (some (assign (.Name y py) env)) (fun _ s' => Q .next s') acc C) F B hcell hkind J0 hn T fun D C oC ys k h t hC S hJ => ?_
  show wpAny _ A (assign (.Name y py) env (.ref D)) _ _ _
  subst hL
  refine wpAny_assign_Name (wpAny_storeName_local hy S.F.ns (fun h₂ hn₂ hs₂ => ?_) hp)
  have S2 : St g₀ env.locals (fun z => if z = y then some (.ref D) else m z) ((C, oC) :: (D, listOf ys k) :: news) h₂ := ⟨S.F.set hn₂ hs₂, S.N.set hs₂, S.nd⟩
  obtain ⟨mC, hCn⟩ := hC h₂ S2.getHead
  exact ⟨mC, hCn, fun h' hs' => fin D ys k h' _ (S2.off hs'.extBut) hJ⟩
end
end
section
section
variable {w : World} {mg mb : Str → Option Value} {A : Around} {E : Value → Shared → Prop} {s : Shared} {g : Heap} {L : Addr} {m : Str → Option Value} {news : List (Addr × Obj)} {env : Env} {pos : Pos} {x : Str} {v : Value}
theorem nLocal {Q : Value → Shared → Prop} (S : St g env.locals m news s.heap) (hv : m x = some v) (h : Q v s) (hk : env.scope.kind = .function) (hx : env.kindOf x = some .local) (hd : (x == ("__debug__" : Str)) = false := by decide) :
    wpAny (model pw w) A (eval (.Name x pos) env) Q E s := wpAny_Name (wpAny_loadName_local hk hx S.F.ns hv h) hd
theorem nGlobal {Q : Value → Shared → Prop} (S : St g L m news s.heap) (B : Base w mg mb g) (e : nsIn (K w.params) mainGlobals x = some (some v)) (h : Q v s) (hg : env.globals = mainGlobals) (hk : env.scope.kind = .function) (hx : env.kindOf x = some .globalImplicit) (hd : (x == ("__debug__" : Str)) = false := by decide) :
    wpAny (model pw w) A (eval (.Name x pos) env) Q E s := nameG_K S.F B.X B.T e h hg hk hx hd
theorem nBuiltin {Q : Value → Shared → Prop} (S : St g L m news s.heap) (B : Base w mg mb g) (e : nsIn (K w.params) mainGlobals x = some none) (hv : bootBuiltins x = some v) (hn : x ≠ "__name__") (h : Q v s) (hg : env.globals = mainGlobals) (hb : env.builtins = builtinsNs) (hk : env.scope.kind = .function) (hx : env.kindOf x = some .globalImplicit) (hd : (x == ("__debug__" : Str)) = false := by decide) :
    wpAny (model pw w) A (eval (.Name x pos) env) Q E s :=
  Name_function_global hk hx (loadGlobal_builtin (by rw [hg]; exact B.T.g.keeps S.F.keep) (mg_none_of B.X B.T.g e) (by rw [hb]; exact B.T.b.keeps S.F.keep) ((B.T.builtins x hn).trans hv) h) hd
theorem nCell {c : Addr} {o : Obj} {Q : Value → Shared → Prop} (hc : env.cells.lookup x = some c) (ho : s.heap.get? c = some o) (hd : o.data = .cell (some v)) (h : Q v s) (hk : env.scope.kind = .function) (hx : env.kindOf x = some .cell) (hb : (x == ("__debug__" : Str)) = false := by decide) :
    wpAny (model pw w) A (eval (.Name x pos) env) Q E s := wpAny_Name (wpAny_loadName_cell hk hx hc ⟨o, ho, hd⟩ h) hb
theorem sLoc {Q : Unit → Shared → Prop} (S : St g env.locals m news s.heap)
    (h : ∀ h', St g env.locals (fun y => if y = x then some v else m y) news h' → Q () { s with heap := h', toks := s.toks + 1 })
    (hk : env.scope.kind = .function) (hx : env.kindOf x = some .local) : wpAny (model pw w) A (storeName env x v) Q E s :=
  wpAny_storeName_local hx S.F.ns (fun h' hn hs => h h' ⟨S.F.set hn hs, S.N.set hs, S.nd⟩) (by rw [hk]; rfl)
theorem aName {px : Pos} {Q : Unit → Shared → Prop} (S : St g env.locals m news s.heap)
    (h : ∀ h', St g env.locals (fun y => if y = x then some v else m y) news h' → Q () { s with heap := h', toks := s.toks + 1 })
    (hk : env.scope.kind = .function) (hx : env.kindOf x = some .local) : wpAny (model pw w) A (assign (.Name x px) env v) Q E s :=
  wpAny_assign_Name (sLoc S h hk hx)
theorem aPair' {x y : Str} {px py : Pos} {k : Nat} {t : Addr} {u v : Value} {Q : Unit → Shared → Prop} (hh : A.handled = none) (S : St g env.locals m news s.heap) (ht : s.heap.IsTuple t #[u, v])
    (h : ∀ h', St g env.locals (fun z => if z = y then some v else if z = x then some u else m z) news h' → Q () { s with heap := h', toks := s.toks + 1 + 1 })
    (hk : env.scope.kind = .function) (hx : env.kindOf x = some .local) (hy : env.kindOf y = some .local) :
    wpAny (model pw w) A (assign (.Tuple [.Name x px, .Name y py] k pos) env (.ref t)) Q E s := by
  refine wpAny_assign_Tuple hh ht (by rfl) (by rfl) fun h₁ hx₁ => ?_
  have S1 : St g env.locals m news h₁ := S.keeps fun b o e => hx₁ b o (Nat.ne_of_lt (Heap.lt_size e)) e
  refine wpAny_assignInOrder_more ?_
  refine wpAny_assign_Name (sLoc S1 (fun h₂ S2 => ?_) hk hx)
  refine wpAny_assignInOrder_more (wpAny_assign_Name (sLoc S2 (fun h₃ S3 => ?_) hk hy))
  refine wpAny_assignInOrder_none ?_
  exact h h₃ S3
end
variable {w : World} {mg mb : Str → Option Value} {A : Around} {s : Shared} {h₀ : Heap}
theorem keys_spec {hx hl : Addr} {rs : List Value} {es : List (Str × Str)} (B : Base w mg mb h₀) (hk : Sub h₀ s.heap) (R : Room A 2) (T : Tab w.params s.heap hx hl rs) (RS : Rows s.heap rs es) (hn : es.length ≤ 100) :
    codeAny (model pw w) A (.call (.ref 205) ⟨[.ref hx], []⟩) (Post [] s fun v h' => ∃ D vs k, v = .ref D ∧ h'.get? D = some (listOf vs.toArray k) ∧ StrsAre vs (es.map (·.1)) ∧ s.heap.get? D = none) s := by
  refine enterK (own := []) (st := stmIn 13 9) (f := 205) (binds := [("self", .ref hx)]) (by rfl) (by kernel_rfl) (by kernel_rfl) B hk noOwn (Room.mono R (by decide) : Room A 0).depth
    (BindsTo.of_eq (by rfl)) (by kernel_rfl) ?_
  intro g L h₁ m tk B hz hg S hm eL
  have R' : ∀ env, Room (A.deeper env) 1 := fun env => Room.deeper R
  have ms : m "self" = some (.ref hx) := (hm _).trans rfl
  clear hm
  have hsub : Sub s.heap g := fun b o e => hg b o (by simp) e
  have T1 := T.keeps hsub
  have RS1 := RS.keeps hsub
  obtain ⟨hd, th, n, I⟩ := T1.at_
  obtain ⟨k, hl1⟩ := T1.list
  refine wpAny_execs_cons ?_
  walk_at "m.step"
  refine eListComp (L := L) (m := m) (cl := []) B (by rfl) (by decide +kernel) (by rfl) (by decide +kernel) (Attribute_name ?_)
  walk_at "m.step"
  refine get_own S.F B.X (⟨S.F.keep _ _ I.at_, rfl, rfl, S.F.keep _ _ I.dict⟩) (by kernel_rfl) (by kernel_rfl) (by rfl : findIn (K w.params) (.ref 253) "_headers" = some none) (by kernel_rfl) (by rfl) (by kernel_rfl) ?_
  refine cut _ (iter_list (items := rs.toArray) (R' (envX "Headers.keys" (fScope (stmIn 13 9)) L 205 (.ref 204) [])).handled S ⟨_, S.F.keep _ _ hl1, rfl, k, rfl⟩ fun it v i s₁ P E hI hP => by cases v <;> first | exact wpAny_letOwnedTupleGo_listiter hI hP | exact wpAny_pure hP) fun it s₂ F => ⟨_, _, _, _, (fun i ys => StrsAre ys.toList ((es.map (·.1)).take i)), F, ?_, ?_, ?_, ?_⟩
  · rw [List.size_toArray, RS.len]; omega
  · exact .nil
  · intro g' C D i v own m₁ ys k' h t B' hg' hi hP hJ S'
    obtain ⟨hi', a, t', u', rfl, htup⟩ := RS1.get i v (by simpa using hP)
    refine aPair' (R' (envX "Headers.keys" (fScope (stmIn 13 9)) L 205 (.ref 204) [])).handled S' (let ⟨o, q1, q2⟩ := htup; ⟨o, S'.F.keep _ _ (hg' _ _ (S.F.keep _ _ q1)), q2⟩) (fun h8 S8 => ?_) (by rfl) (by kernel_rfl) (by kernel_rfl)
    refine wpAny_tests_nil ?_
    rw [if_pos rfl]
    refine nLocal S8 (by walk_at "m.look") ?_ (by rfl) (by kernel_rfl)
    refine ⟨_, h8, _, rfl, S8, ?_⟩
    show StrsAre _ _
    rw [Array.toList_push, List.take_add_one, List.getElem?_map]
    simp only [hi', List.getElem?_eq_getElem, Option.map_some, Option.toList_some]
    exact strs_append hJ (.cons _ _ .nil)
  · intro D ys k' h t S' hJ
    refine S'.post eL hg ⟨D, ys.toList, k', rfl, S'.getHead, ?_, S'.new hg (.head _) (by simp)⟩
    have hJ : StrsAre _ _ := hJ
    rwa [List.take_of_length_le (by rw [List.size_toArray, RS.len, List.length_map]; exact Nat.le_refl _)] at hJ
theorem len_spec {hx hl : Addr} {rs : List Value} (B : Base w mg mb h₀) (hk : Sub h₀ s.heap) (R : Room A 2) (T : Tab w.params s.heap hx hl rs) (hn : rs.length ≤ 100) :
    codeAny (model pw w) A (.call (.ref 159) ⟨[.ref hx], []⟩) (Post [] s fun v h' => ∃ t, v = .int rs.length t) s := by
  refine enterK (own := []) (st := stmIn 13 2) (f := 159) (binds := [("self", .ref hx)]) (by rfl) (by kernel_rfl) (by kernel_rfl) B hk noOwn (Room.mono R (by decide) : Room A 0).depth
    (BindsTo.of_eq (by rfl)) (by kernel_rfl) ?_
  intro g L h₁ m tk B hz hg S hm eL
  have ms : m "self" = some (.ref hx) := (hm _).trans rfl
  clear hm
  have hsub : Sub s.heap g := fun b o e => hg b o (by simp) e
  have T1 := T.keeps hsub
  obtain ⟨hd, th, n, I⟩ := T1.at_
  obtain ⟨k, hl1⟩ := T1.list
  refine wpAny_execs_cons ?_
  walk_at "m.step"
  refine eCall (eBuiltin (v := .builtin "len") S B (by rfl) (by kernel_rfl) (by decide) ?_ (by kernel_rfl) (by kernel_rfl))
  refine callWith_val (by rfl) (by rfl) (fun a e => nomatch e) (args1 (Attribute_name ?_))
  walk_at "m.step"
  refine get_own S.F B.X (⟨S.F.keep _ _ I.at_, rfl, rfl, S.F.keep _ _ I.dict⟩) (by kernel_rfl) (by kernel_rfl) (by rfl : findIn (K w.params) (.ref 253) "_headers" = some none) (by kernel_rfl) (by rfl) (by kernel_rfl) ?_
  refine kw0 (call_len_list ⟨_, S.F.keep _ _ hl1, rfl, k, rfl⟩ (by rw [List.size_toArray]; omega) ?_)
  dsimp only
  rw [List.size_toArray]
  exact S.post eL hg ⟨_, rfl⟩
end
section
theorem slot_cit_next : Slot "callable_iterator" "__next__" "callable_iterator.__next__" := .of (owner := "callable_iterator") (n := "__next__") (by rw [typeLookup_type, builtinLookup_eq_fast]; kernel_rfl) (by decide +kernel) (by decide +kernel) (by decide +kernel)
  (by first | exact .inl (by decide +kernel) | exact .inr (by decide +kernel)) (by rw [isSubtype_type]; kernel_rfl)
theorem slot_cit_iter : Slot "callable_iterator" "__iter__" "callable_iterator.__iter__" := .of (owner := "callable_iterator") (n := "__iter__") (by rw [typeLookup_type, builtinLookup_eq_fast]; kernel_rfl) (by decide +kernel) (by decide +kernel) (by decide +kernel)
  (by first | exact .inl (by decide +kernel) | exact .inr (by decide +kernel)) (by rw [isSubtype_type]; kernel_rfl)
theorem entry_cit_next : entryFor table "callable_iterator.__next__" = some Builtin.«callable_iterator.__next__» := entryFor_of_tree (by kernel_rfl)
theorem entry_cit_iter : entryFor table "callable_iterator.__iter__" = some Builtin.«dict_keyiterator.__iter__» := by
  refine entryFor_alias (id' := "dict_keyiterator.__iter__") ?_ (by decide +kernel) (by decide +kernel) ?_
  · rw [fastTable_eq_tree]; kernel_rfl
  · rw [fastTable_eq_tree]; kernel_rfl
theorem args_cit_next (a : Value) : argsOk "callable_iterator.__next__" ⟨[a], []⟩ := by unfold argsOk; kernel_rfl
theorem args_cit_iter (a : Value) : argsOk "callable_iterator.__iter__" ⟨[a], []⟩ := by unfold argsOk; kernel_rfl
theorem look_method_call : typeLookup (.type "method") "__call__" = pure (some (.builtin "method.__call__")) := by rw [typeLookup_type, builtinLookup_eq_fast]; kernel_rfl
theorem args_iter2 (a b : Value) : argsOk "iter" ⟨[a, b], []⟩ := by unfold argsOk; kernel_rfl
abbrev citOf (q : Addr) (t : Tok) : Obj := { cls := .type "callable_iterator", data := .fields #[.ref q, .str "" t, .bool false] }
abbrev citEnd : Obj := { cls := .type "callable_iterator", data := .fields #[.none, .none, .bool true] }
section
variable {w : World} {A : Around} {E : Value → Shared → Prop} {s : Shared} {g : Heap} {L : Addr} {m : Str → Option Value} {news : List (Addr × Obj)}
theorem cit_make {q : Addr} {f x : Value} {t : Tok} {Q : Value → Shared → Prop} (S : St g L m news s.heap) (hq : s.heap.get? q = some (methodObj f x)) (h : ∀ it h', St g L m ((it, citOf q t) :: news) h' → Q (.ref it) { s with heap := h' }) :
    wpAny (model pw w) A (call (.builtin "iter") [.ref q, .str "" t]) Q E s := by
  refine call_function_entry (by decide +kernel) (by decide +kernel) kdk_entry_iter (args_iter2 _ _) ?_
  unfold Builtin.«iter»
  refine wpAny_bind (m := someArgs "iter" 1 2 _) (wpAny_of_eq (a := [Value.ref q, .str "" t]) (by first | rfl | kernel_rfl!) ?_)
  dsimp only
  refine wpAny_bind (wpAny_specialOf (name := Str.ofString "__call__") ⟨_, hq, rfl⟩ look_method_call ?_)
  refine wpAny_bind (wpAny_rule (wpAny_bind (wpAny_newObj_type (wpAny_pure ⟨_, rfl, h _ _ (S.push (citOf q t))⟩) (by size_fits))))
theorem cit_iter {q it : Addr} {t : Tok} {o : Obj} {Q : Value → Shared → Prop} (ho : s.heap.get? it = some o) (hc : o.cls = .type "callable_iterator") (h : Q (.ref it) s) : wpAny (model pw w) A (pyIter (.ref it)) Q E s := by
  have hT : s.TypeIs (.ref it) "callable_iterator" := ⟨_, ho, hc⟩
  refine wpAny_pyIter_slot hT slot_cit_iter (wpAny_call_entry slot_cit_iter hT entry_cit_iter ?_ (args_cit_iter _))
  show wpAny _ _ (ret (.ref it)) _ _ s
  exact wpAny_pure ⟨_, rfl, "callable_iterator", _, hT, slot_cit_next.lookup, h⟩
theorem borrows_meth {q f : Addr} {x : Value} {fo : Obj} {fd : FuncData} {Q : Bool → Shared → Prop} (hq : s.heap.get? q = some (methodObj (.ref f) x)) (hf : s.heap.get? f = some fo) (hd : fo.data = .func fd) (h : Q true s) :
    wpAny (model pw w) A (borrowsExactly (.ref q)) Q E s := by
  unfold borrowsExactly
  refine wpAny_bind (wpAny_load hq ?_)
  show wpAny _ _ (load f >>= _) _ _ _
  refine wpAny_bind (wpAny_load hf ?_)
  rw [hd]
  exact wpAny_pure h
theorem callBorrowed_of {f : Value} {Q : Value → Shared → Prop} (hc : codeAny (model pw w) A (.call f ⟨[], []⟩) (fun r s' => match r with | .ok (.ret v) => Q v s' | .ok _ => False | .error e => E e s') s) : wpAny (model pw w) A (callBorrowed f []) Q E s := fun Γ p hΓ => by
  unfold callBorrowed
  rw [Sem.wp_call]
  refine wpCode_mono (fun r s' hr => ?_) (hc _ p rfl (hΓ.enter _ none p (by intro x; cases x)))
  rcases r with e | f
  · exact hr
  · cases f <;> first | exact hr | exact hr.elim
theorem stopIt {β : Type} {Q : β → Shared → Prop} {P : Option Value → Shared → Prop} (hh : A.handled = none) (h : ∀ h', Sub s.heap h' → P none { s with heap := h' }) :
    wpAny (model pw w) A.in1 Builtin.SmallTypes.stopIteration Q (fun e s' => wpAny (model pw w) A (do if ← isInstance e (.type "StopIteration") then pure none else throw e) P E s') s := by
  unfold Builtin.SmallTypes.stopIteration
  refine wpAny_bind ?_
  simp only [newExc, newTuple]
  refine wpAny_bind (wpAny_newObj_type ?_ (by size_fits))
  refine wpAny_bind (m := firstArgMember _ _) (wpAny_of_eq (a := Value.none) (by first | rfl | (simp only [firstArgMember]; rfl)) ?_)
  refine wpAny_newObj_type ?_ (by size_fits)
  simp only [raiseNew]
  refine wpAny_bind (wpAny_handled ?_)
  rw [show A.in1.handled = none from hh]
  refine wpAny_bind (wpAny_pure (wpAny_throw ?_))
  refine wpAny_bind (wpAny_isInstance (T := "StopIteration") (b := true) ⟨_, Heap.get?_push_size _ rfl, rfl⟩ isSubtype_stop ?_)
  exact wpAny_pure (h _ fun b o e => Heap.get?_push_of_some _ (Heap.get?_push_of_some _ e))
theorem cit_next {q it f x : Addr} {t : Tok} {fo : Obj} {fd : FuncData} {Q : Option Value → Shared → Prop} (hh : A.handled = none) (hit : s.heap.get? it = some (citOf q t)) (hq : s.heap.get? q = some (methodObj (.ref f) (.ref x))) (hf : s.heap.get? f = some fo) (hd : fo.data = .func fd)
    (h : codeAny (model pw w) A.in1 (.call (.ref f) ⟨[.ref x], []⟩) (fun r s' => ∃ c u, r = .ok (.ret (.str c u)) ∧ s'.heap.get? it = some (citOf q t) ∧ s'.heap.get? q = some (methodObj (.ref f) (.ref x)) ∧ s'.heap.get? f = some fo ∧
      (if c = "" then ∀ h'', Heap.ExtBut it s'.heap h'' → h''.get? it = some citEnd → Q none { s' with heap := h'' } else Q (some (.str c u)) s')) s) :
    wpAny (model pw w) A (pyNext (.ref it)) Q E s := by
  have hT : s.TypeIs (.ref it) "callable_iterator" := ⟨_, hit, rfl⟩
  unfold pyNext
  refine wpAny_bind (wpAny_attempt (wpAny_callSpecial?_slot (name := Str.ofString "__next__") hT slot_cit_next
    (wpAny_call_entry slot_cit_next hT entry_cit_next ?_ (args_cit_next _))))
  unfold Builtin.«callable_iterator.__next__»
  refine wpAny_bind (m := slotArgs "__next__" 0 _) (wpAny_pure ?_)
  refine wpAny_bind (wpAny_field hit rfl (i := 2) rfl ?_)
  rw [if_neg (by exact Bool.false_ne_true)]
  refine wpAny_bind (wpAny_field hit rfl (i := 0) rfl ?_)
  refine wpAny_bind (wpAny_attempt ?_)
  unfold callOutOfASlot
  refine wpAny_bind (borrows_meth hq hf hd ?_)
  rw [if_pos rfl]
  refine callBorrowed_of (method_call hq (codeAny_mono h ?_))
  rintro r s' ⟨c, u, rfl, hit', hq', hf', hQ⟩
  show wpAny _ _ _ _ _ _
  refine wpAny_bind (wpAny_field hit' rfl (i := 2) rfl ?_)
  rw [if_neg (by exact Bool.false_ne_true)]
  refine wpAny_bind (wpAny_field hit' rfl (i := 1) rfl ?_)
  refine wpAny_bind (wpAny_holding (wpAny_eqBool_str ?_))
  by_cases e : c = ""
  · subst e
    rw [if_pos rfl] at hQ
    rw [if_neg (by simp)]
    refine wpAny_bind (wpAny_rule ?_)
    refine wpAny_bind (m := (field (.ref it) 0 >>= fun v => slotLetsGo "callable_iterator.__next__" v _ >>= fun _ => setField (.ref it) 0 .none >>= fun _ => setField (.ref it) 1 .none >>= fun _ => setField (.ref it) 2 (.bool true))) ?_
    refine wpAny_bind (wpAny_field hit' rfl (i := 0) rfl ?_)
    refine wpAny_bind ?_
    unfold slotLetsGo
    refine wpAny_bind (borrows_meth hq' hf' hd ?_)
    rw [if_pos rfl]
    refine wpAny_pure ?_
    refine wpAny_bind (wpAny_setField_rec hit' (by simp) fun h1 e1 s1 => ?_)
    refine wpAny_bind (wpAny_setField_rec e1 (by simp) fun h2 e2 s2 => ?_)
    refine wpAny_setField_rec e2 (by simp) fun h3 e3 s3 => ?_
    refine stopIt hh fun h4 k4 => hQ h4 (fun b o nb e => k4 _ _ (s3.extBut b o nb (s2.extBut b o nb (s1.extBut b o nb e)))) (k4 _ _ e3)
  · rw [if_neg e] at hQ
    rw [if_pos (by simp; exact fun q => e q.symm)]
    exact wpAny_pure ⟨_, rfl, wpAny_pure hQ⟩
theorem cit_over {it : Addr} {Q : Option Value → Shared → Prop} (hh : A.handled = none) (hit : s.heap.get? it = some citEnd) (h : ∀ h', Sub s.heap h' → Q none { s with heap := h' }) :
    wpAny (model pw w) A (pyNext (.ref it)) Q E s := by
  have hT : s.TypeIs (.ref it) "callable_iterator" := ⟨_, hit, rfl⟩
  unfold pyNext
  refine wpAny_bind (wpAny_attempt (wpAny_callSpecial?_slot (name := Str.ofString "__next__") hT slot_cit_next
    (wpAny_call_entry slot_cit_next hT entry_cit_next ?_ (args_cit_next _))))
  unfold Builtin.«callable_iterator.__next__»
  refine wpAny_bind (m := slotArgs "__next__" 0 _) (wpAny_pure ?_)
  refine wpAny_bind (wpAny_field hit rfl (i := 2) rfl ?_)
  rw [if_pos (by rfl)]
  exact wpAny_bind (wpAny_rule (wpAny_bind (stopIt hh h)))
end
end
section
abbrev ent (P : Params) (k : Str) (t : Tok) (v : Value) : DictEntry := ⟨PyData.keyHash P k, .str k t, v⟩
abbrev lexD (P : Params) (t1 t2 t3 t4 : Tok) (ln fp : Value) (tw : Tok) (pl : Addr) (n : Nat) : Obj :=
  dictOf [ent P "lineno" t1 ln, ent P "instream" t2 fp, ent P "whitespace" t3 (.str "\n\t\r " tw), ent P "pushback" t4 (.ref pl)] n
variable {w : World} {mg mb : Str → Option Value} {A : Around} {s : Shared} {h₀ : Heap}
theorem linit_spec {hx dx : Addr} {fp : Value} (B : Base w mg mb h₀) (hk : Sub h₀ s.heap) (R : Room A 2) (hI : s.heap.get? hx = some (instObj 103 dx)) (hxd : hx ≠ dx) (O : Owns h₀ s.heap [(dx, dictOf [] 0)]) :
    codeAny (model pw w) A (.call (.ref 79) ⟨[.ref hx, fp], []⟩) (Post [(dx, dictOf [] 0)] s fun v h' => v = .none ∧ ∃ pl t1 t2 t3 t4 u tw n, h'.get? dx = some (lexD w.params t1 t2 t3 t4 (.int 1 u) fp tw pl n) ∧ h'.get? pl = some (listOf #[] 0) ∧ s.heap.get? pl = none) s := by
  refine enterK (st := stmIn 7 0) (f := 79) (binds := [("self", .ref hx), ("fp", fp)]) (by rfl) (by kernel_rfl) (by kernel_rfl) B hk O (Room.mono R (by decide) : Room A 0).depth
    (BindsTo.of_eq (by rfl)) (by kernel_rfl) ?_
  intro g L h₁ m tk B hz hg S hm eL
  have ms : m "self" = some (.ref hx) := (hm _).trans rfl
  have mx : m "fp" = some fp := (hm _).trans rfl
  clear hm
  have hIg : g.get? hx = some (instObj 103 dx) := hg _ _ (by simpa using hxd) hI
  refine wpAny_execs_cons ?_
  refine plainObj_wpAny_Assign_Attribute ?_
  repeat' walk_at "m.step"
  refine eSetDict S B (C := 103) (es' := [ent w.params "lineno" (tk + 1 + 1) (.int 1 tk)]) (n' := 1) (S.F.keep _ _ hIg) rfl rfl rfl (by rfl) (by kernel_rfl) (by rfl) (by kernel_rfl) (by rfl) (by rfl) (by simp) ?_
  intro h2 S2
  dsimp only
  repeat' walk_at "m.step"
  refine plainObj_wpAny_Assign_Attribute ?_
  repeat' walk_at "m.step"
  refine eSetDict S2 B (C := 103) (es' := [ent w.params "lineno" (tk + 1 + 1) (.int 1 tk), ent w.params "instream" _ fp]) (n' := 2) (S2.F.keep _ _ hIg) rfl rfl rfl (by rfl) (by kernel_rfl) (by rfl) (by kernel_rfl) (by rfl) (by rfl) (by simp) ?_
  intro h3 S3
  dsimp only
  repeat' walk_at "m.step"
  refine plainObj_wpAny_Assign_Attribute ?_
  walk_at "m.step"
  repeat' walk_at "m.step"
  refine eSetDict S3 B (C := 103) (es' := [ent w.params "lineno" (tk + 1 + 1) (.int 1 tk), ent w.params "instream" _ fp, ent w.params "whitespace" _ (.str "\n\t\r " _)]) (n' := 3) (S3.F.keep _ _ hIg) rfl rfl rfl (by rfl) (by kernel_rfl) (by rfl) (by kernel_rfl) (by rfl) (by rfl) (by simp) ?_
  intro h4 S4
  dsimp only
  repeat' walk_at "m.step"
  refine plainObj_wpAny_Assign_Attribute ?_
  refine List_ (args0 (eNewList S4 (fun pl h5 _ S5 => ?_) (by decide)))
  walk_at "m.step"
  have S6 := S5.swap
  refine eSetDict S6 B (C := 103) (es' := [ent w.params "lineno" (tk + 1 + 1) (.int 1 tk), ent w.params "instream" _ fp, ent w.params "whitespace" _ (.str "\n\t\r " _), ent w.params "pushback" _ (.ref pl)]) (n' := 4) (S6.F.keep _ _ hIg) rfl rfl rfl (by rfl) (by kernel_rfl) (by rfl) (by kernel_rfl) (by rfl) (by rfl) (by simp) ?_
  intro h7 S7
  dsimp only
  walk_at "m.step"
  exact S7.post eL hg ⟨rfl, pl, _, _, _, _, _, _, _, S7.getHead, (S7.N _ (.tail _ (.head _))).1, S7.new hg (.tail _ (.head _)) (by simpa using S7.fresh _ (.head _))⟩
/-- _netrclex(fp) -/
theorem newLexer {g : Heap} {L : Addr} {m : Str → Option Value} {news : List (Addr × Obj)} {fp : Value} {E : Value → Shared → Prop} {Q : Value → Shared → Prop} (S : St g L m news s.heap) (B : Base w mg mb g) (R : Room A 4)
    (h : ∀ hx dx pl t1 t2 t3 t4 u tw n h' tk, St g L m ((pl, listOf #[] 0) :: (dx, lexD w.params t1 t2 t3 t4 (.int 1 u) fp tw pl n) :: (hx, instObj 103 dx) :: news) h' → Q (.ref hx) { s with heap := h', toks := tk }) :
    wpAny (model pw w) A (call (.ref 103) [fp] []) Q E s := by
  refine call_cls S.F B.X S.N (by kernel_rfl) (by rfl : findIn (K w.params) (.ref 103) "__init__" = some (some (.ref 79))) (by kernel_rfl) fun x dx h1 F1 N1 hlt hltx => ?_
  have S1 : St g L m ((x, instObj 103 dx) :: (dx, dictOf [] 0) :: news) h1 := ⟨F1, N1, by
    rw [List.map_cons, List.map_cons, List.nodup_cons, List.nodup_cons]
    refine ⟨fun q => ?_, fun q => ?_, S.nd⟩
    · rcases List.mem_cons.mp q with q | q
      · exact absurd (show x = dx from q) (Nat.ne_of_gt hltx)
      · obtain ⟨p, hp, e⟩ := List.mem_map.mp q
        exact absurd (show p.1 = x from e) (Nat.ne_of_lt (Nat.lt_trans (hlt p hp) hltx))
    · obtain ⟨p, hp, e⟩ := List.mem_map.mp q
      exact absurd (show p.1 = dx from e) (Nat.ne_of_lt (hlt p hp))⟩
  have S2 : St g L m ([(dx, dictOf [] 0)] ++ ((x, instObj 103 dx) :: news)) h1 := S1.swap
  refine codeAny_mono (linit_spec (s := { s with heap := h1 }) (A := A.under _) (hx := x) (dx := dx) (fp := fp) B F1.keep ?_ S1.getHead (Nat.ne_of_gt hltx) S2.owns) ?_
  · exact room_call R
  rintro r s' ⟨v, h', t', rfl, rfl, hz, hk, rfl, pl, t1, t2, t3, t4, u, tw, n, q1, q2, q3⟩
  refine ⟨rfl, ?_⟩
  have S3 := S2.after (own' := [(dx, lexD w.params t1 t2 t3 t4 (.int 1 u) fp tw pl n)]) hz hk rfl (fun p hp => by
    rcases List.mem_singleton.mp hp with rfl
    exact q1)
  exact h _ _ _ _ _ _ _ _ _ _ _ _ (S2.made S3 rfl q2 q3)
def nxt : Stmt := (fBody (stm 15)).getD 2 (.Pass default)
abbrev nxtFn (doc pm : Value) (c c' : Addr) (ctv : Value) : Obj := fnMade "_law_next" "_law_lexer.<locals>._law_next" (fArgs nxt) (fBody nxt) (fScope nxt) [("left", c)] doc pm c' ctv
theorem nFree {env : Env} {x : Str} {v : Value} {E : Value → Shared → Prop} {pos : Pos} {c : Addr} {o : Obj} {Q : Value → Shared → Prop} (hc : env.cells.lookup x = some c) (ho : s.heap.get? c = some o) (hd : o.data = .cell (some v)) (h : Q v s) (hk : env.scope.kind = .function) (hx : env.kindOf x = some .free) (hb : (x == ("__debug__" : Str)) = false := by decide) (hn : (x == ("__classdict__" : Str)) = false := by decide) :
    wpAny (model pw w) A (eval (.Name x pos) env) Q E s := wpAny_Name (wpAny_loadName_free hk hx hc ⟨o, ho, hd⟩ h hn) hb
theorem next_spec {f c c' lst : Addr} {oc : Obj} {doc pm ctv : Value} {t : Tok} {vs : List Value} {cs : List Str} {n : Nat} (B : Base w mg mb h₀) (hk : Sub h₀ s.heap) (R : Room A 2) (hf : s.heap.get? f = some (nxtFn doc pm c c' ctv)) (hc' : s.heap.CodeRec (.ref c') "_law_lexer.<locals>._law_next")
    (hc : s.heap.get? c = some oc) (hcd : oc.data = .cell (some (.ref lst))) (hcl : c ≠ lst) (O : Owns h₀ s.heap [(lst, listOf vs.toArray n)]) (hv : StrsAre vs cs) (hn : cs.length ≤ 100) :
    codeAny (model pw w) A (.call (.ref f) ⟨[.int 1 t], []⟩) (Post [(lst, listOf vs.toArray n)] s fun v h' => (∃ u, v = .str (cs.headD "") u) ∧ ∃ n', h'.get? lst = some (listOf vs.tail.toArray n')) s := by
  refine enter (cl := [("left", c)]) (binds := [("size", .int 1 t)]) O hk B.T.nolimit (Room.mono R (by decide) : Room A 0).depth hf rfl hc' (BindsTo.of_eq (by rfl)) (fun y hy => by rcases List.mem_singleton.mp hy with rfl; kernel_rfl) ?_ (by decide +kernel) (by rfl) (by rfl) (by rfl)
  intro g L h₁ hsub hz hg S eL
  have B := B.keeps hsub
  have hcg : h₁.get? c = some oc := S.F.keep _ _ (hg _ _ (by simpa using hcl) hc)
  refine wpAny_execs_cons ?_
  walk_at "m.step"
  refine wpAny_IfExp (wpAny_isTrue_value ?_)
  refine nFree (by rfl : ([(("left" : Str), c)] : List (Str × Addr)).lookup ("left" : Str) = some c) hcg hcd ?_ (by rfl) (by kernel_rfl)
  have hl : h₁.IsList lst vs.toArray := ⟨_, S.getHead, rfl, n, rfl⟩
  have hvl := strs_len hv
  refine wpAny_truthy_list hl (by rw [List.size_toArray]; omega) ?_
  cases hv with
  | nil =>
    rw [if_neg (by simp)]
    walk_at "m.step"
    exact S.post eL hg ⟨⟨_, rfl⟩, n, S.getHead⟩
  | @cons y ty vs' cs' hv' =>
    rw [if_pos (by simp)]
    refine eMeth ?_
    refine nFree (by rfl : ([(("left" : Str), c)] : List (Str × Addr)).lookup ("left" : Str) = some c) hcg hcd ?_ (by rfl) (by kernel_rfl)
    refine listMethod_K S.N (.head _) PySem.F.slot_list_pop PySem.F.type_list_pop ?_
    refine callWith_val (by rfl) (by rfl) (fun a e => nomatch e) (args1 ?_)
    walk_at "m.step"
    refine kw0 ?_
    refine kl_popAt (k := 0) (p := []) (q := vs') (y := .str y ty) S.F S.N (by rfl) (by simp [seqIndex?]) (by rfl) (.head S.fresh) (by simp [sizeLine] at hn hvl ⊢; omega) fun h5 F5 N5 => ?_
    exact St.post (m := _) (news := _) ⟨F5, N5, S.nd⟩ eL hg ⟨⟨_, rfl⟩, _, (N5 _ (.head _)).1⟩
end
section
variable {w : World} {mg mb : Str → Option Value} {A : Around} {s : Shared} {h₀ : Heap}
/-- an object that no call of the lexer's changes -/
def Stays (o : Obj) : Prop := (∀ its n, o.data ≠ .seq its n) ∧ ∀ es n, o.data = .dict es n → getL "read" es.toList ≠ some none
structure Lx (h : Heap) (xl dl xs lst : Addr) : Prop where
  inst : h.get? xl = some (instObj 103 dl)
  strm : ∃ ds f c c' oc o' vs' tq doc pm ctv es n, h.get? xs = some (instObj 103 ds) ∧ h.get? ds = some (dictOf es n) ∧ getL "read" es = some (some (.ref f)) ∧ h.get? f = some (nxtFn doc pm c c' ctv) ∧
    (h.get? c' = some o' ∧ o'.data = .fields vs' ∧ vs'[1]? = some (.str "_law_lexer.<locals>._law_next" tq)) ∧ h.get? c = some oc ∧ oc.data = .cell (some (.ref lst))
theorem stays_of {o : Obj} (h1 : ∀ its n, o.data ≠ .seq its n) (h2 : ∀ es n, o.data ≠ .dict es n) : Stays o := ⟨h1, fun es n e => absurd e (h2 es n)⟩
theorem Lx.keeps {h h' : Heap} {xl dl xs lst : Addr} (X : Lx h xl dl xs lst) (k : ∀ b o, Stays o → h.get? b = some o → h'.get? b = some o) : Lx h' xl dl xs lst := by
  obtain ⟨ds, f, c, c', oc, o', vs', tq, doc, pm, ctv, es, n, a1, a2, a3, a4, ⟨a5, a6, a7⟩, a8, a9⟩ := X.strm
  have inst_stays : ∀ {x d}, Stays (instObj x d) := fun {x d} => stays_of (fun _ _ q => nomatch q) (fun _ _ q => nomatch q)
  refine ⟨k _ _ inst_stays X.inst, ds, f, c, c', oc, o', vs', tq, doc, pm, ctv, es, n, k _ _ inst_stays a1, k _ _ ⟨fun _ _ q => (nomatch q), fun es' n' q => ?_⟩ a2, a3, k _ _ (stays_of (fun _ _ q => nomatch q) (fun _ _ q => nomatch q)) a4,
    ⟨k _ _ (stays_of (fun _ _ q => by rw [a6] at q; cases q) (fun _ _ q => by rw [a6] at q; cases q)) a5, a6, a7⟩, k _ _ (stays_of (fun _ _ q => by rw [a9] at q; cases q) (fun _ _ q => by rw [a9] at q; cases q)) a8, a9⟩
  have e1 : es = es'.toList := by
    have := Data.dict.inj (show Data.dict es.toArray n = _ from q)
    rw [← this.1]
  rw [← e1, a3]
  exact fun q => nomatch q
theorem list_moves {vs : Array Value} {n : Nat} : ¬ Stays (listOf vs n) := fun h => h.1 _ _ rfl
theorem lexD_moves {P : Params} {t1 t2 t3 t4 tw : Tok} {ln fp : Value} {pl : Addr} {n : Nat} : ¬ Stays (lexD P t1 t2 t3 t4 ln fp tw pl n) := fun h => h.2 _ _ rfl rfl
/-- what stays stays where only the own change -/
theorem stays_keep {h h' : Heap} {own : List (Addr × Obj)} (O : ∀ p ∈ own, h.get? p.1 = some p.2 ∧ ¬ Stays p.2) (k : ∀ b o, b ∉ own.map (·.1) → h.get? b = some o → h'.get? b = some o) : ∀ b o, Stays o → h.get? b = some o → h'.get? b = some o := fun b o hs e => k b o (fun q => by
  obtain ⟨p, hp, rfl⟩ := List.mem_map.mp q
  obtain ⟨a1, a2⟩ := O p hp
  rw [e] at a1
  cases a1
  exact a2 hs) e
theorem read_spec {xl dl xs lst pl : Addr} {t1 t2 t3 t4 tw u : Tok} {ln : Nat} {vs : List Value} {cs : List Str} {n k : Nat} (B : Base w mg mb h₀) (hk : Sub h₀ s.heap) (R : Room A 5) (X : Lx s.heap xl dl xs lst)
    (O : Owns h₀ s.heap [(dl, lexD w.params t1 t2 t3 t4 (.int ln u) (.ref xs) tw pl n), (lst, listOf vs.toArray k)]) (hv : StrsAre vs cs) (hn : cs.length ≤ 100) :
    codeAny (model pw w) A (.call (.ref 86) ⟨[.ref xl], []⟩) (Post [(dl, lexD w.params t1 t2 t3 t4 (.int ln u) (.ref xs) tw pl n), (lst, listOf vs.toArray k)] s fun v h' => (∃ u, v = .str (cs.headD "") u) ∧
      ∃ (ln' : Nat) (u' : Tok) (k' : Nat), h'.get? dl = some (lexD w.params t1 t2 t3 t4 (.int ln' u') (.ref xs) tw pl n) ∧ h'.get? lst = some (listOf vs.tail.toArray k')) s := by
  have hmv : ∀ p ∈ [(dl, lexD w.params t1 t2 t3 t4 (.int ln u) (.ref xs) tw pl n), (lst, listOf vs.toArray k)], s.heap.get? p.1 = some p.2 ∧ ¬ Stays p.2 := fun p hp => ⟨(O.at_ p hp).1, by
    rcases List.mem_cons.mp hp with rfl | hp
    · exact lexD_moves
    · rcases List.mem_singleton.mp hp with rfl
      exact list_moves⟩
  refine enterK (st := stmIn 7 1) (f := 86) (binds := [("self", .ref xl)]) (by rfl) (by kernel_rfl) (by kernel_rfl) B hk O (Room.mono R (by decide) : Room A 0).depth
    (BindsTo.of_eq (by rfl)) (by kernel_rfl) ?_
  intro g L h₁ m tk B hz hg S hm eL
  have R' : ∀ env, Room (A.deeper env) 4 := fun env => Room.deeper R
  have ms : m "self" = some (.ref xl) := (hm _).trans rfl
  clear hm
  have Xg : Lx g xl dl xs lst := X.keeps (stays_keep hmv hg)
  refine wpAny_execs_cons ?_
  walk_at "m.step"
  refine eMeth (Attribute_name ?_)
  walk_at "m.step"
  refine get_own S.F B.X (⟨S.F.keep _ _ Xg.inst, rfl, rfl, S.getHead⟩) (by kernel_rfl) (by kernel_rfl) (by rfl : findIn (K w.params) (.ref 103) "instream" = some none) (by kernel_rfl) (by rfl) (by kernel_rfl) ?_
  obtain ⟨ds, f, c, c', oc, o', vs', tq, doc, pm, ctv, es, n', a1, a2, a3, a4, ⟨a5, a6, a7⟩, a8, a9⟩ := Xg.strm
  have IS : ∀ {h'}, Sub g h' → InstAt h' xs (instObj 103 ds) 103 (some (dictOf es n')) := fun k => ⟨k _ _ a1, rfl, rfl, k _ _ a2⟩
  refine method_usual (B.X.keeps S.F.keep) (IS S.F.keep) (by kernel_rfl) (by kernel_rfl) (by rfl : findIn (K w.params) (.ref 103) "read" = some none) (by rfl) ?_
  refine get_own S.F B.X (IS S.F.keep) (by kernel_rfl) (by kernel_rfl) (by rfl : findIn (K w.params) (.ref 103) "read" = some none) (by kernel_rfl) a3 (by kernel_rfl) ?_
  refine callWith_fn (by rfl) (by rfl) (args1 ?_)
  walk_at "m.step"
  refine kw0 ⟨⟨f, _, _, rfl, S.F.keep _ _ a4, rfl⟩, ?_⟩
  have S2 : St g L m ([(lst, listOf vs.toArray k)] ++ [(dl, lexD w.params t1 t2 t3 t4 (.int ln u) (.ref xs) tw pl n)]) h₁ := S.swap
  refine call_post (next_spec (f := f) (c := c) (c' := c') (lst := lst) (vs := vs) (cs := cs) (n := k) B S.F.keep (Room.mono (R' _) (by decide)) (S.F.keep _ _ a4) ⟨c', o', vs', tq, rfl, S.F.keep _ _ a5, a6, a7⟩ (S.F.keep _ _ a8) a9 ?_ S2.owns hv hn) ?_
  · intro q
    have := S2.getHead
    rw [← q, S.F.keep _ _ a8] at this
    cases this; cases a9
  rintro v h5 t5 hz5 hk5 ⟨⟨u5, rfl⟩, k5, hl5⟩
  have S5 := (S2.after (own' := [(lst, listOf vs.tail.toArray k5)]) hz5 hk5 rfl (fun p hp => by
    rcases List.mem_singleton.mp hp with rfl
    exact hl5))
  refine sLocal S5 (fun h6 S6 => ?_) (by kernel_rfl) (by kernel_rfl)
  dsimp only
  repeat' walk_at "m.step"
  refine eq_str ?_
  repeat' walk_at "m.step"
  by_cases e : cs.headD "" = ("\n" : Str)
  · rw [if_pos (by simpa using e)]
    refine wpAny_execs_cons ?_
    refine wpAny_AugAssign_AttributeAny ?_
    walk_at "m.step"
    refine get_own S6.F B.X (⟨S6.F.keep _ _ Xg.inst, rfl, rfl, (S6.N _ (.tail _ (.head _))).1⟩) (by kernel_rfl) (by kernel_rfl) (by rfl : findIn (K w.params) (.ref 103) "lineno" = some none) (by kernel_rfl) (by rfl) (by kernel_rfl) ?_
    walk_at "m.step"
    refine iadd_int ?_
    refine eSetDict S6.swap B (C := 103) (es' := [ent w.params "lineno" t1 (.int ((ln + 1 : Nat) : Int) _), ent w.params "instream" t2 (.ref xs), ent w.params "whitespace" t3 (.str "\n\t\r " tw), ent w.params "pushback" t4 (.ref pl)]) (n' := n) (S6.F.keep _ _ Xg.inst) rfl rfl rfl (by rfl) (by kernel_rfl) (by rfl) (by kernel_rfl) (by rfl) (by rfl) (by simp) ?_
    intro h7 S7
    dsimp only
    repeat' walk_at "m.step"
    exact S7.post eL hg ⟨⟨_, rfl⟩, ln + 1, _, _, S7.getHead, (S7.N _ (.tail _ (.head _))).1⟩
  · rw [if_neg (by simpa using e)]
    repeat' walk_at "m.step"
    exact S6.post eL hg ⟨⟨_, rfl⟩, ln, u, _, (S6.N _ (.tail _ (.head _))).1, S6.getHead⟩
end
section
variable {w : World} {mg mb : Str → Option Value} {A : Around} {s : Shared} {h₀ : Heap}
theorem push_spec {xl dl xs pl : Addr} {t1 t2 t3 t4 tw u : Tok} {ln : Nat} {x : Str} {t : Tok} {vs : List Value} {n k : Nat} (B : Base w mg mb h₀) (hk : Sub h₀ s.heap) (R : Room A 2) (hI : s.heap.get? xl = some (instObj 103 dl)) (hD : s.heap.get? dl = some (lexD w.params t1 t2 t3 t4 (.int ln u) (.ref xs) tw pl n))
    (O : Owns h₀ s.heap [(pl, listOf vs.toArray k)]) (hn : vs.length ≤ 100) :
    codeAny (model pw w) A (.call (.ref 100) ⟨[.ref xl, .str x t], []⟩) (Post [(pl, listOf vs.toArray k)] s fun v h' => v = .none ∧ ∃ k', h'.get? pl = some (listOf (vs ++ [Value.str x t]).toArray k')) s := by
  refine enterK (st := stmIn 7 3) (f := 100) (binds := [("self", .ref xl), ("token", .str x t)]) (by rfl) (by kernel_rfl) (by kernel_rfl) B hk O (Room.mono R (by decide) : Room A 0).depth
    (BindsTo.of_eq (by rfl)) (by kernel_rfl) ?_
  intro g L h₁ m tk B hz hg S hm eL
  have ms : m "self" = some (.ref xl) := (hm _).trans rfl
  have mt : m "token" = some (.str x t) := (hm _).trans rfl
  clear hm
  have hpl := (O.at_ _ (.head _)).1
  have e1 : g.get? xl = some (instObj 103 dl) := hg _ _ (by simp; intro q; rw [q, hpl] at hI; cases hI) hI
  have e2 : g.get? dl = some (lexD w.params t1 t2 t3 t4 (.int ln u) (.ref xs) tw pl n) := hg _ _ (by simp; intro q; rw [q, hpl] at hD; exact nomatch congrArg Obj.data (Option.some.inj hD)) hD
  refine wpAny_execs_cons ?_
  refine wpAny_Expr (eMeth (Attribute_name ?_))
  walk_at "m.step"
  refine get_own S.F B.X (⟨S.F.keep _ _ e1, rfl, rfl, S.F.keep _ _ e2⟩) (by kernel_rfl) (by kernel_rfl) (by rfl : findIn (K w.params) (.ref 103) "pushback" = some none) (by kernel_rfl) (by rfl) (by kernel_rfl) ?_
  refine listMethod_K S.N (.head _) PySem.F.slot_list_append PySem.F.type_list_append ?_
  refine callWith_val (by rfl) (by rfl) (fun a e => nomatch e) (args1 ?_)
  walk_at "m.step"
  refine kw0 ?_
  refine eAppend S (fun h13 S13 => ?_) (by simp [sizeLine]; omega)
  dsimp only
  walk_at "m.step"
  exact S13.post eL hg ⟨rfl, k + 1, by rw [S13.getHead]; simp⟩
theorem pop_spec {xl dl xs pl : Addr} {t1 t2 t3 t4 tw u : Tok} {ln : Nat} {x : Str} {t : Tok} {vs : List Value} {n k : Nat} (B : Base w mg mb h₀) (hk : Sub h₀ s.heap) (R : Room A 2) (hI : s.heap.get? xl = some (instObj 103 dl)) (hD : s.heap.get? dl = some (lexD w.params t1 t2 t3 t4 (.int ln u) (.ref xs) tw pl n))
    (O : Owns h₀ s.heap [(pl, listOf (.str x t :: vs).toArray k)]) (hn : vs.length ≤ 100) :
    codeAny (model pw w) A (.call (.ref 93) ⟨[.ref xl], []⟩) (Post [(pl, listOf (.str x t :: vs).toArray k)] s fun v h' => v = .str x t ∧ ∃ k', h'.get? pl = some (listOf vs.toArray k')) s := by
  refine enterK (st := stmIn 7 2) (f := 93) (binds := [("self", .ref xl)]) (by rfl) (by kernel_rfl) (by kernel_rfl) B hk O (Room.mono R (by decide) : Room A 0).depth
    (BindsTo.of_eq (by rfl)) (by kernel_rfl) ?_
  intro g L h₁ m tk B hz hg S hm eL
  have ms : m "self" = some (.ref xl) := (hm _).trans rfl
  clear hm
  have hpl := (O.at_ _ (.head _)).1
  have e1 : g.get? xl = some (instObj 103 dl) := hg _ _ (by simp; intro q; rw [q, hpl] at hI; cases hI) hI
  have e2 : g.get? dl = some (lexD w.params t1 t2 t3 t4 (.int ln u) (.ref xs) tw pl n) := hg _ _ (by simp; intro q; rw [q, hpl] at hD; exact nomatch congrArg Obj.data (Option.some.inj hD)) hD
  refine wpAny_execs_cons ?_
  refine wpAny_If (wpAny_isTrue_value (Attribute_name ?_))
  walk_at "m.step"
  refine get_own S.F B.X (⟨S.F.keep _ _ e1, rfl, rfl, S.F.keep _ _ e2⟩) (by kernel_rfl) (by kernel_rfl) (by rfl : findIn (K w.params) (.ref 103) "pushback" = some none) (by kernel_rfl) (by rfl) (by kernel_rfl) ?_
  refine wpAny_truthy_list ⟨_, S.getHead, rfl, k, rfl⟩ (by rw [List.size_toArray, List.length_cons]; omega) ?_
  rw [if_pos (by simp)]
  walk_at "m.step"
  walk_at "m.step"
  refine eMeth (Attribute_name ?_)
  walk_at "m.step"
  refine get_own S.F B.X (⟨S.F.keep _ _ e1, rfl, rfl, S.F.keep _ _ e2⟩) (by kernel_rfl) (by kernel_rfl) (by rfl : findIn (K w.params) (.ref 103) "pushback" = some none) (by kernel_rfl) (by rfl) (by kernel_rfl) ?_
  refine listMethod_K S.N (.head _) PySem.F.slot_list_pop PySem.F.type_list_pop ?_
  refine callWith_val (by rfl) (by rfl) (fun a e => nomatch e) (args1 ?_)
  walk_at "m.step"
  refine kw0 ?_
  refine kl_popAt (k := 0) (p := []) (q := vs) (y := .str x t) S.F S.N (by rfl) (by simp [seqIndex?]) (by rfl) (.head S.fresh) (by simp [sizeLine]; omega) fun h5 F5 N5 => ?_
  exact St.post (m := _) (news := _) ⟨F5, N5, S.nd⟩ eL hg ⟨rfl, _, (N5 _ (.head _)).1⟩
end
section
section
variable {w : World} {mg mb : Str → Option Value} {A : Around} {E : Value → Shared → Prop} {s : Shared} {env : Env} {pos : Pos}
theorem eForDraw {x : Str} {px : Pos} {it : Addr} {body : List Stmt} {Q : Flow → Shared → Prop} (I : Nat → Shared → Prop)
    (turn : ∀ n s, I n s → wpAny (model pw w) A (pyNext (.ref it)) (fun r s₁ => match r with
      | none => Q .next s₁
      | some v => wpAny (model pw w) A (assign (.Name x px) env v) (fun _ s₂ => wpAny (model pw w) A (execs body env) (fun f s₃ => match f with
        | .next | .cont => ∃ m, m < n ∧ I m s₃
        | .brk => Q .next s₃
        | .ret v => Q (.ret v) s₃) Bot s₂) Bot s₁) Bot s) (n : Nat) (h : I n s) :
    codeAny (model pw w) A (.forLoop (.Name x px) (.ref it) body [] env) (fun r s' => match r with | .ok f => Q f s' | .error e => cameBackBy (model pw w) A env E e s') s := by
  refine codeAny_forLoop_any (R := fun r s' => match r with | .ok f => Q f s' | .error e => cameBackBy (model pw w) A env E e s') I (fun n s hI => cut _ (turn n s hI) fun r s₁ hr => ?_) n h
  cases r with
  | none => exact wpAny_execs_nil hr
  | some v =>
    refine wpAny_pure (cut _ hr fun _ s₂ h₂ => cut _ h₂ fun f s₃ h₃ => ?_)
    cases f <;> exact h₃
/-- where the lexer stands while it reads -/
structure LexAt where
  xl : Addr
  dl : Addr
  xs : Addr
  lst : Addr
  pl : Addr
  it : Addr
  qa : Addr
  t1 : Tok
  t2 : Tok
  t3 : Tok
  t4 : Tok
  tw : Tok
  tq : Tok
  n : Nat
abbrev LexAt.dict (P : Params) (Z : LexAt) (ln : Nat) (u : Tok) : Obj := lexD P Z.t1 Z.t2 Z.t3 Z.t4 (.int ln u) (.ref Z.xs) Z.tw Z.pl Z.n
def LS (P : Params) (g : Heap) (L : Addr) (Z : LexAt) (ci : Obj) (cs : List Str) (tok : Str) (m : Str → Option Value) (h : Heap) : Prop :=
  ∃ ln u vs k tt, St g L m [(Z.it, ci), (Z.dl, Z.dict P ln u), (Z.lst, listOf vs.toArray k), (Z.qa, methodObj (.ref 86) (.ref Z.xl))] h ∧ StrsAre vs cs ∧ cs.length ≤ 100 ∧
    m "self" = some (.ref Z.xl) ∧ m "fiter" = some (.ref Z.it) ∧ m "token" = some (.str tok tt)
theorem read_in {g : Heap} {L : Addr} {Z : LexAt} {ci : Obj} {cs : List Str} {tok : Str} {m : Str → Option Value} (B : Base w mg mb g) (R : Room A 5) (X : Lx g Z.xl Z.dl Z.xs Z.lst) (S : LS w.params g L Z ci cs tok m s.heap) {R' : Result → Shared → Prop}
    (h : ∀ u h' t', LS w.params g L Z ci cs.tail tok m h' → R' (.ok (.ret (.str (cs.headD "") u))) { s with heap := h', toks := t' }) :
    codeAny (model pw w) A (.call (.ref 86) ⟨[.ref Z.xl], []⟩) R' s := by
  obtain ⟨ln, u, vs, k, tt, S, hv, hn, m1, m2, m3⟩ := S
  have S2 : St g L m ([(Z.dl, Z.dict w.params ln u), (Z.lst, listOf vs.toArray k)] ++ [(Z.it, ci), (Z.qa, methodObj (.ref 86) (.ref Z.xl))]) s.heap := S.perm (fun p hp => by simp at hp ⊢; rcases hp with h | h | h | h <;> simp [h]) (by
    have := S.nd
    simp only [List.map_cons, List.map_nil, List.nodup_cons, List.mem_cons, List.append_eq, List.cons_append, List.nil_append, not_or, List.not_mem_nil, not_false_eq_true, and_true, List.nodup_nil] at this ⊢
    obtain ⟨⟨a1, a2, a3⟩, ⟨a4, a5⟩, a6⟩ := this
    exact ⟨⟨a4, Ne.symm a1, a5⟩, ⟨Ne.symm a2, a6⟩, a3⟩)
  refine codeAny_mono (read_spec (xl := Z.xl) (dl := Z.dl) (xs := Z.xs) (lst := Z.lst) (pl := Z.pl) B S.F.keep R (X.keeps fun b o _ e => S.F.keep b o e) S2.owns hv hn) ?_
  rintro r s' ⟨v, h', t', rfl, rfl, hz, hk, ⟨u1, rfl⟩, ln', u', k', d1, d2⟩
  refine h u1 h' t' ⟨ln', u', vs.tail, k', tt, ?_, ?_, by rw [List.length_tail]; omega, m1, m2, m3⟩
  · have S3 := S2.after (own' := [(Z.dl, Z.dict w.params ln' u'), (Z.lst, listOf vs.tail.toArray k')]) hz hk rfl (fun p hp => by
      rcases List.mem_cons.mp hp with rfl | hp
      · exact d1
      · rcases List.mem_singleton.mp hp with rfl
        exact d2)
    refine S3.perm (fun p hp => by simp at hp ⊢; rcases hp with h | h | h | h <;> simp [h]) ?_
    have := S.nd
    simpa using this
  · rw [← List.drop_one, ← List.drop_one]
    exact strs_drop hv 1
theorem draw {g : Heap} {L : Addr} {Z : LexAt} {cs : List Str} {tok : Str} {m : Str → Option Value} {Q : Option Value → Shared → Prop} (B : Base w mg mb g) (R : Room A 6) (X : Lx g Z.xl Z.dl Z.xs Z.lst) (S : LS w.params g L Z (citOf Z.qa Z.tq) cs tok m s.heap)
    (h : if cs.headD "" = "" then ∀ h' t', LS w.params g L Z citEnd cs.tail tok m h' → Q none { s with heap := h', toks := t' } else ∀ u h' t', LS w.params g L Z (citOf Z.qa Z.tq) cs.tail tok m h' → Q (some (.str (cs.headD "") u)) { s with heap := h', toks := t' }) :
    wpAny (model pw w) A (pyNext (.ref Z.it)) Q E s := by
  have hS := S
  obtain ⟨ln, u, vs, k, tt, S, hv, hn, m1, m2, m3⟩ := S
  have hf : ∀ h', Sub g h' → h'.get? 86 = some (ob86 w.params) := fun h' k => k _ _ (B.X _ _ (by rfl : (K w.params).lookup 86 = some (ob86 w.params)))
  refine cit_next R.handled S.getHead (S.N _ (.tail _ (.tail _ (.tail _ (.head _))))).1 (hf _ S.F.keep) rfl (read_in B (Room.in1 R) X hS fun u1 h' t' S' => ⟨cs.headD "", u1, rfl, ?_⟩)
  obtain ⟨ln', u', vs', k', tt', S2, hv', hn', m1', m2', m3'⟩ := S'
  refine ⟨S2.getHead, (S2.N _ (.tail _ (.tail _ (.tail _ (.head _))))).1, hf _ S2.F.keep, ?_⟩
  by_cases e : cs.headD "" = ""
  · rw [if_pos e] at h ⊢
    intro h'' hx he
    refine h h'' t' ⟨ln', u', vs', k', tt', ?_, hv', hn', m1', m2', m3'⟩
    exact (S2.change (own := [(Z.it, citOf Z.qa Z.tq)]) (own' := [(Z.it, citEnd)]) rfl (fun b o nb e => hx b o (by simpa using nb) e) (fun p hp => by rcases List.mem_singleton.mp hp with rfl; exact he))
  · rw [if_neg e] at h ⊢
    exact h u1 h' t' ⟨ln', u', vs', k', tt', S2, hv', hn', m1', m2', m3'⟩
end
end
section
def digs : List Str := ["0", "1", "2", "3", "4", "5", "6", "7", "8", "9"]
abbrev white : Str := "\n\t\r "
abbrev isWhite (d : Str) : Bool := !(Builtin.Str.occurrences white d 0 white.length 1).isEmpty
theorem dig_facts : ∀ d ∈ digs, d ≠ "" ∧ (d == ("\"" : Str)) = false ∧ (d == ("\\" : Str)) = false ∧ isWhite d = false ∧ d.length = 1 := by decide +kernel
theorem quote_white : isWhite "\"" = false := by decide +kernel
theorem slash_white : isWhite "\\" = false := by decide +kernel
theorem nl_white : isWhite "\n" = true := by decide +kernel
abbrev catS (ds : List Str) : Str := ds.foldl (· ++ ·) ""
theorem catS_len : ∀ (ds : List Str) (a : Str), (∀ d ∈ ds, d ∈ digs) → (ds.foldl (· ++ ·) a).length = a.length + ds.length
  | [], a, _ => rfl
  | d :: r, a, h => by
    rw [List.foldl_cons, catS_len r _ fun x hx => h x (.tail _ hx), Str.length_append, (dig_facts d (h d (.head _))).2.2.2.2, List.length_cons]
    omega
def wrote (q : Bool) (ds : List Str) : List Str := if q then ("\"" : Str) :: (ds ++ [("\"" : Str)]) else ds.flatMap fun d => [("\\" : Str), d]
section
variable {w : World} {A : Around} {E : Value → Shared → Prop} {s : Shared} {pos : Pos} {g : Heap} {L : Addr} {Z : LexAt} {ci : Obj} {cs : List Str} {tok c : Str} {u : Tok} {m mg mb : Str → Option Value}
abbrev tokEnv (L : Addr) : Env := envX "_netrclex.get_token" (fScope (stmIn 7 2)) L 93 (.ref 92) []
theorem draw_cons {Q : Option Value → Shared → Prop} (B : Base w mg mb g) (R : Room A 6) (X : Lx g Z.xl Z.dl Z.xs Z.lst) (S : LS w.params g L Z (citOf Z.qa Z.tq) (c :: cs) tok m s.heap) (hc : c ≠ "")
    (h : ∀ u h' t', LS w.params g L Z (citOf Z.qa Z.tq) cs tok m h' → Q (some (.str c u)) { s with heap := h', toks := t' }) : wpAny (model pw w) A (pyNext (.ref Z.it)) Q E s :=
  draw B R X S (by rw [if_neg (show ¬ ((c :: cs).headD "" = "") from hc)]; exact h)
theorem draw_nil {Q : Option Value → Shared → Prop} (B : Base w mg mb g) (R : Room A 6) (X : Lx g Z.xl Z.dl Z.xs Z.lst) (S : LS w.params g L Z (citOf Z.qa Z.tq) [] tok m s.heap)
    (h : ∀ h' t', LS w.params g L Z citEnd [] tok m h' → Q none { s with heap := h', toks := t' }) : wpAny (model pw w) A (pyNext (.ref Z.it)) Q E s :=
  draw B R X S (by rw [if_pos (show ([] : List Str).headD "" = "" from rfl)]; exact h)
theorem setCh {px : Pos} {Q : Unit → Shared → Prop} (S : LS w.params g L Z ci cs tok m s.heap) (h : ∀ m' h' t', LS w.params g L Z ci cs tok m' h' → m' "ch" = some (.str c u) → Q () { s with heap := h', toks := t' }) :
    wpAny (model pw w) A (assign (.Name "ch" px) (tokEnv L) (.str c u)) Q E s := by
  obtain ⟨ln, u', vs, k, tt, S, hv, hn, m1, m2, m3⟩ := S
  refine aName (env := tokEnv L) S (fun h' S' => h _ h' _ ⟨ln, u', vs, k, tt, S', hv, hn, by walk_at "m.look", by walk_at "m.look", by walk_at "m.look"⟩ (by walk_at "m.look")) (by rfl) (by kernel_rfl)
theorem addTok {p1 p2 : Pos} {Q : Flow → Shared → Prop} (S : LS w.params g L Z ci cs tok m s.heap) (hc : m "ch" = some (.str c u)) (hl : tok.length + c.length ≤ 1000) (h : ∀ m' h' t', LS w.params g L Z ci cs (tok ++ c) m' h' → Q .next { s with heap := h', toks := t' }) :
    wpAny (model pw w) A (exec (.AugAssign (.Name "token" p1) .Add (.Name "ch" p2) pos) (tokEnv L)) Q E s := by
  obtain ⟨ln, u', vs, k, tt, S, hv, hn, m1, m2, m3⟩ := S
  refine wpAny_AugAssign_Name (wpAny_loadName_local (by rfl) (by kernel_rfl) S.F.ns m3 ?_)
  refine eLocal S hc ?_ (by kernel_rfl) (by kernel_rfl)
  refine iadd_str (fun t' tk => ?_) (by simp only [sizeLine]; omega)
  refine sLoc (env := tokEnv L) (s := { s with toks := tk }) S (fun h' S' => h _ h' _ ⟨ln, u', vs, k, t', S', hv, hn, by walk_at "m.look", by walk_at "m.look", by walk_at "m.look"⟩) (by rfl) (by kernel_rfl)
theorem readCh {p1 p2 p3 p4 : Pos} {pl : Sem Bool} {Q : Flow → Shared → Prop} (B : Base w mg mb g) (R : Room A 5) (X : Lx g Z.xl Z.dl Z.xs Z.lst) (S : LS w.params g L Z ci (c :: cs) tok m s.heap) (h : ∀ u m' h' t', LS w.params g L Z ci cs tok m' h' → m' "ch" = some (.str c u) → Q .next { s with heap := h', toks := t' })
    (he : eval (.Call (.Attribute (.Name "self" p2) "_read_char" p3) [] [] p4) (tokEnv L) = (do
      let ov ← eval (.Name "self" p2) (tokEnv L)
      standAt p3.atName
      let (f, first) ← holding [ov] (getMethod ov "_read_char" pl)
      callWith p4 f first (backTo p4 (starEach [] (tokEnv L))) (backToKw p4 (keywordEach [] (tokEnv L)))) := by rfl) :
    wpAny (model pw w) A (exec (.Assign [.Name "ch" p1] (.Call (.Attribute (.Name "self" p2) "_read_char" p3) [] [] p4) pos) (tokEnv L)) Q E s := by
  have hS := S
  obtain ⟨ln, u', vs, k, tt, S, hv, hn, m1, m2, m3⟩ := S
  refine wpAny_Assign_Name (eMeth (he := he) (eLocal S m1 ?_ (by kernel_rfl) (by kernel_rfl)))
  refine method_inst S.F B.X (⟨S.F.keep _ _ X.inst, rfl, rfl, (S.N _ (.tail _ (.head _))).1⟩) (by kernel_rfl) (by rfl : findIn (K w.params) (.ref 103) "_read_char" = some (some (.ref 86))) (by kernel_rfl) (by rfl) ?_
  refine callWith_fn (by rfl) (by rfl) (args0 (kw0 ?_))
  refine ⟨⟨86, _, _, rfl, S.F.keep _ _ (B.X _ _ (by rfl : (K w.params).lookup 86 = some (ob86 w.params))), rfl⟩, ?_⟩
  refine call_of (read_in B R X hS fun u1 h' t' S' => ⟨_, rfl, ?_⟩)
  obtain ⟨ln', u2, vs', k', tt', S2, hv', hn', m1', m2', m3'⟩ := S'
  refine sLoc (env := tokEnv L) (s := { s with heap := h', toks := t' }) S2 (fun h'' S'' => h u1 _ h'' _ ⟨ln', u2, vs', k', tt', S'', hv', hn', by walk_at "m.look", by walk_at "m.look", by walk_at "m.look"⟩ (by exact if_pos rfl)) (by rfl) (by kernel_rfl)
theorem whiteTest {p1 p2 p3 p4 : Pos} {Q : Bool → Shared → Prop} (B : Base w mg mb g) (X : Lx g Z.xl Z.dl Z.xs Z.lst) (S : LS w.params g L Z ci cs tok m s.heap) (hc : m "ch" = some (.str c u)) (h : ∀ t', Q (isWhite c) { s with toks := t' }) :
    wpAny (model pw w) A (isTrue (.Compare (.Name "ch" p1) [.In] [.Attribute (.Name "self" p2) "whitespace" p3] p4) (tokEnv L) (eval (.Compare (.Name "ch" p1) [.In] [.Attribute (.Name "self" p2) "whitespace" p3] p4) (tokEnv L))) Q E s := by
  obtain ⟨ln, u', vs, k, tt, S, hv, hn, m1, m2, m3⟩ := S
  refine wpAny_isTrue_Compare1 (eLocal S hc ?_ (by kernel_rfl) (by kernel_rfl))
  refine Attribute_name (eLocal S m1 ?_ (by kernel_rfl) (by kernel_rfl))
  refine get_own S.F B.X (⟨S.F.keep _ _ X.inst, rfl, rfl, (S.N _ (.tail _ (.head _))).1⟩) (by kernel_rfl) (by kernel_rfl) (by rfl : findIn (K w.params) (.ref 103) "whitespace" = some none) (by kernel_rfl) (by rfl) (by kernel_rfl) ?_
  refine in_str ?_
  exact wpAny_truthy_bool (h _)
theorem eqTest {x : Str} {p1 p2 p4 : Pos} {kk : Nat} {Q : Bool → Shared → Prop} (S : LS w.params g L Z ci cs tok m s.heap) (hc : m "ch" = some (.str c u)) (h : ∀ t', Q (c == x) { s with toks := t' }) :
    wpAny (model pw w) A (isTrue (.Compare (.Name "ch" p1) [.Eq] [.Constant (.str x) kk p2] p4) (tokEnv L) (eval (.Compare (.Name "ch" p1) [.Eq] [.Constant (.str x) kk p2] p4) (tokEnv L))) Q E s := by
  obtain ⟨ln, u', vs, k, tt, S, hv, hn, m1, m2, m3⟩ := S
  refine wpAny_isTrue_Compare1 (eLocal S hc ?_ (by kernel_rfl) (by kernel_rfl))
  refine Constant_str ?_
  exact eq_str (wpAny_truthy_bool (h _))
end
theorem wrote_len : ∀ ds : List Str, (wrote false ds).length = 2 * ds.length
  | [] => rfl
  | d :: r => by
    show (("\\" : Str) :: d :: wrote false r).length = _
    simp only [List.length_cons, wrote_len r]
    omega
variable {w : World} {mg mb : Str → Option Value} {A : Around} {s : Shared} {h₀ : Heap}
theorem lex_spec {xl dl xs lst pl : Addr} {t1 t2 t3 t4 tw u : Tok} {ln : Nat} {vs : List Value} {n k kp : Nat} {q : Bool} {ds pre tail : List Str} (B : Base w mg mb h₀) (hk : Sub h₀ s.heap) (R : Room A 8) (X : Lx s.heap xl dl xs lst)
    (O : Owns h₀ s.heap [(dl, lexD w.params t1 t2 t3 t4 (.int ln u) (.ref xs) tw pl n), (lst, listOf vs.toArray k)]) (hpl : s.heap.get? pl = some (listOf #[] kp)) (hpn : pl ≠ lst) (hv : StrsAre vs (pre ++ (wrote q ds ++ tail))) (hn : (pre ++ (wrote q ds ++ tail)).length ≤ 100)
    (hds : ∀ d ∈ ds, d ∈ digs) (hne : ds ≠ []) (hpre : pre = [] ∨ pre = [("\n" : Str)]) (ht : q = false → tail = [] ∨ ∃ r, tail = ("\n" : Str) :: r) :
    codeAny (model pw w) A (.call (.ref 93) ⟨[.ref xl], []⟩) (Post [(dl, lexD w.params t1 t2 t3 t4 (.int ln u) (.ref xs) tw pl n), (lst, listOf vs.toArray k)] s fun v h' => (∃ u, v = .str (catS ds) u) ∧
      ∃ (ln' : Nat) (u' : Tok) (k' : Nat) (vs' : List Value), h'.get? dl = some (lexD w.params t1 t2 t3 t4 (.int ln' u') (.ref xs) tw pl n) ∧ h'.get? lst = some (listOf vs'.toArray k') ∧ StrsAre vs' (if q then tail else tail.tail)) s := by
  refine codeQ fun QQ hQ => ?_
  have hmv : ∀ p ∈ [(dl, lexD w.params t1 t2 t3 t4 (.int ln u) (.ref xs) tw pl n), (lst, listOf vs.toArray k)], s.heap.get? p.1 = some p.2 ∧ ¬ Stays p.2 := fun p hp => ⟨(O.at_ p hp).1, by
    rcases List.mem_cons.mp hp with rfl | hp
    · exact lexD_moves
    · rcases List.mem_singleton.mp hp with rfl
      exact list_moves⟩
  have hdl := (O.at_ _ (.head _)).1
  refine enterK (st := stmIn 7 2) (f := 93) (binds := [("self", .ref xl)]) (by rfl) (by kernel_rfl) (by kernel_rfl) B hk O (Room.mono R (by decide) : Room A 0).depth
    (BindsTo.of_eq (by rfl)) (by kernel_rfl) ?_
  intro g L h₁ m tk B hz hg S hm eL
  have R' : ∀ env, Room (A.deeper env) 7 := fun env => Room.deeper R
  have ms : m "self" = some (.ref xl) := (hm _).trans rfl
  clear hm
  have Xg : Lx g xl dl xs lst := X.keeps (stays_keep hmv hg)
  have e3 : g.get? pl = some (listOf #[] kp) := hg _ _ (by
    simp only [List.map_cons, List.map_nil, List.mem_cons, List.not_mem_nil, or_false, not_or]
    refine ⟨fun q => ?_, hpn⟩
    rw [q, hdl] at hpl
    exact nomatch congrArg Obj.data (Option.some.inj hpl)) hpl
  refine wpAny_execs_cons ?_
  refine wpAny_If (wpAny_isTrue_value (Attribute_name ?_))
  walk_at "m.step"
  refine get_own S.F B.X (⟨S.F.keep _ _ Xg.inst, rfl, rfl, S.getHead⟩) (by kernel_rfl) (by kernel_rfl) (by rfl : findIn (K w.params) (.ref 103) "pushback" = some none) (by kernel_rfl) (by rfl) (by kernel_rfl) ?_
  refine wpAny_truthy_list ⟨_, S.F.keep _ _ e3, rfl, kp, rfl⟩ (by decide) ?_
  rw [if_neg (by simp)]
  walk_at "m.step"
  walk_at "m.step"
  walk_at "m.step"
  walk_at "m.step"
  refine sLocal S (fun h2 S2 => ?_) (by kernel_rfl) (by kernel_rfl)
  dsimp only
  walk_at "m.step"
  walk_at "m.step"
  refine eCall (eBuiltin (v := .builtin "iter") S2 B (by rfl) (by kernel_rfl) (by decide) ?_ (by kernel_rfl) (by kernel_rfl))
  refine callWith_val (by rfl) (by rfl) (fun a e => nomatch e) (args2 (Attribute_name ?_))
  walk_at "m.step"
  refine kbm_bound S2.F B.X S2.N (⟨S2.F.keep _ _ Xg.inst, rfl, rfl, S2.getHead⟩) (by kernel_rfl) (by kernel_rfl) (by rfl : findIn (K w.params) (.ref 103) "_read_char" = some (some (.ref 86))) (by kernel_rfl) (by rfl) (by rfl) (by kernel_rfl) (by rfl) fun qa h3 F3 N3 lt3 => ?_
  have S3 : St g L _ ((qa, methodObj (.ref 86) (.ref xl)) :: [(dl, lexD w.params t1 t2 t3 t4 (.int ln u) (.ref xs) tw pl n), (lst, listOf vs.toArray k)]) h3 := ⟨F3, N3, by
    rw [List.map_cons, List.nodup_cons]
    refine ⟨fun q => ?_, S2.nd⟩
    obtain ⟨p, hp, e⟩ := List.mem_map.mp q
    exact absurd (show p.1 = qa from e) (Nat.ne_of_lt (lt3 p hp))⟩
  walk_at "m.step"
  refine kw0 ?_
  refine cit_make S3 S3.getHead fun it h4 S4 => ?_
  refine sLocal S4 (fun h5 S5 => ?_) (by kernel_rfl) (by kernel_rfl)
  dsimp only
  walk_at "m.step"
  refine eFor ?_
  walk_at "m.step"
  refine cit_iter (q := qa) (t := 0) S5.getHead rfl ?_
  -- the reading state
  generalize eZ : (LexAt.mk xl dl xs lst pl it qa t1 t2 t3 t4 tw (tk + 1 + 1 + 1 + 1 + 1 + 1) n) = Z
  have XZ : Lx g Z.xl Z.dl Z.xs Z.lst := by rw [← eZ]; exact Xg
  have start : ∃ m5, LS w.params g L Z (citOf Z.qa Z.tq) (pre ++ (wrote q ds ++ tail)) "" m5 h5 := by
    subst eZ
    refine ⟨_, ln, u, vs, k, _, S5.perm (fun p hp => by simp at hp ⊢; rcases hp with h | h | h | h <;> simp [h]) ?_, hv, hn, by walk_at "m.look", by walk_at "m.look", by walk_at "m.look"⟩
    have := S5.nd
    simp only [List.map_cons, List.map_nil, List.nodup_cons, List.mem_cons, not_or, List.not_mem_nil, not_false_eq_true, and_true, List.nodup_nil] at this ⊢
    obtain ⟨⟨a1, a2, a3⟩, ⟨a4, a5⟩, a6⟩ := this
    exact ⟨⟨a2, a3, a1⟩, ⟨a6, Ne.symm a4⟩, Ne.symm a5⟩
  have fin : ∀ ci cs tok m h t v, LS w.params g L Z ci cs tok m h → tok = catS ds → cs = (if q then tail else tail.tail) → m "token" = some v →
      QQ (.ok (.ret v)) { s with heap := h, toks := t } := by
    rintro ci cs tok m h t v ⟨ln', u', vs', k', tt, S, hv, hn, m1, m2, m3⟩ rfl rfl mv
    rw [m3] at mv; cases mv
    subst eZ
    exact hQ _ _ (S.post eL hg ⟨⟨_, rfl⟩, ln', u', k', vs', (S.N _ (.tail _ (.head _))).1, (S.N _ (.tail _ (.tail _ (.head _)))).1, hv⟩)
  have hwh : ∀ h', Sub g h' → h'.get? xl = some (instObj 103 dl) := fun h' k => k _ _ Xg.inst
  have eit : it = Z.it := by subst eZ; rfl
  obtain ⟨m5, start⟩ := start
  clear S S2 S3 S4 S5 F3 N3 lt3
  rw [eit]
  obtain ⟨I0, out0, into0⟩ : ∃ I : Nat → Shared → Prop, (∀ j s', I j s' → ∃ m h t, s' = { s with heap := h, toks := t } ∧ ((j = 2 ∧ pre = [("\n" : Str)] ∧ LS w.params g L Z (citOf Z.qa Z.tq) (("\n" : Str) :: (wrote q ds ++ tail)) "" m h) ∨ (j = 1 ∧ LS w.params g L Z (citOf Z.qa Z.tq) (wrote q ds ++ tail) "" m h) ∨ (j = 0 ∧ q = false ∧ tail = [] ∧ LS w.params g L Z citEnd [] (catS ds) m h))) ∧ ∀ j s', (∃ m h t, s' = { s with heap := h, toks := t } ∧ ((j = 2 ∧ pre = [("\n" : Str)] ∧ LS w.params g L Z (citOf Z.qa Z.tq) (("\n" : Str) :: (wrote q ds ++ tail)) "" m h) ∨ (j = 1 ∧ LS w.params g L Z (citOf Z.qa Z.tq) (wrote q ds ++ tail) "" m h) ∨ (j = 0 ∧ q = false ∧ tail = [] ∧ LS w.params g L Z citEnd [] (catS ds) m h))) → I j s' := ⟨fun j s' => ∃ m h t, s' = { s with heap := h, toks := t } ∧ ((j = 2 ∧ pre = [("\n" : Str)] ∧ LS w.params g L Z (citOf Z.qa Z.tq) (("\n" : Str) :: (wrote q ds ++ tail)) "" m h) ∨ (j = 1 ∧ LS w.params g L Z (citOf Z.qa Z.tq) (wrote q ds ++ tail) "" m h) ∨ (j = 0 ∧ q = false ∧ tail = [] ∧ LS w.params g L Z citEnd [] (catS ds) m h)), fun _ _ x => x, fun _ _ x => x⟩
  refine eForDraw I0 ?_ (if pre = [] then 1 else 2) ?_
  rotate_left
  · rcases hpre with rfl | rfl
    · exact into0 _ _ ⟨_, _, _, rfl, .inr (.inl ⟨rfl, start⟩)⟩
    · exact into0 _ _ ⟨_, _, _, rfl, .inl ⟨rfl, rfl, start⟩⟩
  intro j s' hI0
  obtain ⟨m, h, t, rfl, hcase⟩ := out0 _ _ hI0
  clear hI0 out0
  rcases hcase with ⟨rfl, hp, S⟩ | ⟨rfl, S⟩ | ⟨rfl, rfl, rfl, S⟩
  · refine draw_cons B (Room.mono (R' _) (by decide)) XZ S (by decide) fun u1 h1 t1' S1 => ?_
    refine setCh S1 fun m2 h2 t2' S2 hc => ?_
    refine wpAny_execs_cons (wpAny_If (whiteTest B XZ S2 hc fun t3' => ?_))
    rw [nl_white, if_pos rfl]
    refine wpAny_execs_cons ?_
    refine wpAny_Continue ?_
    exact ⟨1, by decide, into0 _ _ ⟨m2, h2, t3', rfl, .inr (.inl ⟨rfl, S2⟩)⟩⟩
  · cases q with
    | true =>
      have S : LS w.params g L Z (citOf Z.qa Z.tq) (("\"" : Str) :: (ds ++ (("\"" : Str) :: tail))) "" m h := by simpa [wrote] using S
      refine draw_cons B (Room.mono (R' _) (by decide)) XZ S (by decide) fun u1 h1 t1' S1 => ?_
      refine setCh S1 fun m2 h2 t2' S2 hc => ?_
      refine wpAny_execs_cons (wpAny_If (whiteTest B XZ S2 hc fun t3' => ?_))
      rw [quote_white, if_neg Bool.false_ne_true]
      refine wpAny_execs_nil ?_
      dsimp only
      refine wpAny_execs_cons (wpAny_If (eqTest S2 hc fun t4' => ?_))
      rw [if_pos (by decide +kernel)]
      refine wpAny_execs_cons (eFor ?_)
      obtain ⟨ln2, u2, vs2, k2, tt2, S2', hv2, hn2, m21, m22, m23⟩ := id S2
      refine eLocal S2' m22 ?_ (by kernel_rfl) (by kernel_rfl)
      refine cit_iter (q := Z.qa) (t := 0) S2'.getHead rfl ?_
      clear S2' hv2 hn2 m21 m22 m23
      obtain ⟨I1, out1, into1⟩ : ∃ I : Nat → Shared → Prop, (∀ j s', I j s' → ∃ done rest m h t, ds = done ++ rest ∧ j = rest.length ∧ s' = { s with heap := h, toks := t } ∧ LS w.params g L Z (citOf Z.qa Z.tq) (rest ++ (("\"" : Str) :: tail)) (catS done) m h) ∧ ∀ j s', (∃ done rest m h t, ds = done ++ rest ∧ j = rest.length ∧ s' = { s with heap := h, toks := t } ∧ LS w.params g L Z (citOf Z.qa Z.tq) (rest ++ (("\"" : Str) :: tail)) (catS done) m h) → I j s' := ⟨fun j s' => ∃ done rest m h t, ds = done ++ rest ∧ j = rest.length ∧ s' = { s with heap := h, toks := t } ∧ LS w.params g L Z (citOf Z.qa Z.tq) (rest ++ (("\"" : Str) :: tail)) (catS done) m h, fun _ _ x => x, fun _ _ x => x⟩
      refine eForDraw I1 ?_ ds.length (into1 _ _ ⟨[], ds, m2, h2, t4', rfl, rfl, rfl, S2⟩)
      intro j s' hI1
      obtain ⟨done, rest, m, h, t, eds, rfl, rfl, S⟩ := out1 _ _ hI1
      clear hI1 out1
      cases rest with
      | nil =>
        refine draw_cons B (Room.mono (R' _) (by decide)) XZ S (by decide) fun u1 h1 t1' S1 => ?_
        refine setCh S1 fun m2 h2 t2' S2 hc => ?_
        refine wpAny_execs_cons (wpAny_If (eqTest S2 hc fun t4' => ?_))
        rw [if_pos (by decide +kernel)]
        refine wpAny_execs_cons (wpAny_Return_some ?_)
        obtain ⟨ln2, u2, vs2, k2, tt2, S2', hv2, hn2, m21, m22, m23⟩ := id S2
        refine eLocal S2' m23 ?_ (by kernel_rfl) (by kernel_rfl)
        exact fin _ _ _ _ _ _ _ S2 (by rw [eds, List.append_nil]) rfl m23
      | cons d r =>
        obtain ⟨f1, f2, f3, f4, f5⟩ := dig_facts d (hds d (by rw [eds]; simp))
        refine draw_cons B (Room.mono (R' _) (by decide)) XZ S f1 fun u1 h1 t1' S1 => ?_
        refine setCh S1 fun m2 h2 t2' S2 hc => ?_
        refine wpAny_execs_cons (wpAny_If (eqTest S2 hc fun t4' => ?_))
        rw [f2, if_neg Bool.false_ne_true]
        refine wpAny_execs_cons (wpAny_If (eqTest S2 hc fun t5' => ?_))
        rw [f3, if_neg Bool.false_ne_true]
        refine wpAny_execs_nil ?_
        dsimp only
        refine wpAny_execs_nil ?_
        dsimp only
        refine wpAny_execs_cons (addTok S2 hc ?_ fun m3 h3 t6' S3 => ?_)
        · rw [f5, catS_len done _ fun x hx => hds x (by rw [eds]; exact List.mem_append_left _ hx)]
          have z : ds.length ≤ 100 := by simp [wrote] at hn; omega
          rw [eds, List.length_append] at z
          show 0 + _ + _ ≤ _
          omega
        refine wpAny_execs_nil ?_
        dsimp only
        refine ⟨r.length, by simp, into1 _ _ ⟨done ++ [d], r, m3, h3, t6', by rw [eds]; simp, rfl, rfl, ?_⟩⟩
        simpa [catS, List.foldl_append] using S3
    | false =>
      have hlen : ds.length ≤ 100 := by
        have := wrote_len ds
        simp only [List.length_append] at hn
        omega
      obtain ⟨d, dr, rfl⟩ := List.exists_cons_of_ne_nil hne
      obtain ⟨f1, f2, f3, f4, f5⟩ := dig_facts d (hds d (.head _))
      have S : LS w.params g L Z (citOf Z.qa Z.tq) (("\\" : Str) :: d :: (wrote false dr ++ tail)) "" m h := by simpa [wrote] using S
      refine draw_cons B (Room.mono (R' _) (by decide)) XZ S (by decide) fun u1 h1 t1' S1 => ?_
      refine setCh S1 fun m2 h2 t2' S2 hc => ?_
      refine wpAny_execs_cons (wpAny_If (whiteTest B XZ S2 hc fun t3' => ?_))
      rw [slash_white, if_neg Bool.false_ne_true]
      refine wpAny_execs_nil ?_
      dsimp only
      refine wpAny_execs_cons (wpAny_If (eqTest S2 hc fun t4' => ?_))
      rw [if_neg (by decide +kernel)]
      refine wpAny_execs_cons (wpAny_If (eqTest S2 hc fun t5' => ?_))
      rw [if_pos (by decide +kernel)]
      refine wpAny_execs_cons (readCh B (Room.mono (R' _) (by decide)) XZ S2 fun u3 m3 h3 t6' S3 hc3 => ?_)
      dsimp only
      refine wpAny_execs_nil ?_
      dsimp only
      refine wpAny_execs_cons (addTok S3 hc3 (by rw [f5]; decide) fun m4 h4 t7' S4 => ?_)
      dsimp only
      refine wpAny_execs_cons (eFor ?_)
      obtain ⟨ln2, u2, vs2, k2, tt2, S2', hv2, hn2, m21, m22, m23⟩ := id S4
      refine eLocal S2' m22 ?_ (by kernel_rfl) (by kernel_rfl)
      refine cit_iter (q := Z.qa) (t := 0) S2'.getHead rfl ?_
      clear S2' hv2 hn2 m21 m22 m23
      obtain ⟨I2, out2, into2⟩ : ∃ I : Nat → Shared → Prop, (∀ j s', I j s' → ∃ done rest m h t, (d :: dr) = done ++ rest ∧ j = rest.length ∧ s' = { s with heap := h, toks := t } ∧ LS w.params g L Z (citOf Z.qa Z.tq) (wrote false rest ++ tail) (catS done) m h) ∧ ∀ j s', (∃ done rest m h t, (d :: dr) = done ++ rest ∧ j = rest.length ∧ s' = { s with heap := h, toks := t } ∧ LS w.params g L Z (citOf Z.qa Z.tq) (wrote false rest ++ tail) (catS done) m h) → I j s' := ⟨fun j s' => ∃ done rest m h t, (d :: dr) = done ++ rest ∧ j = rest.length ∧ s' = { s with heap := h, toks := t } ∧ LS w.params g L Z (citOf Z.qa Z.tq) (wrote false rest ++ tail) (catS done) m h, fun _ _ x => x, fun _ _ x => x⟩
      refine eForDraw I2 ?_ dr.length (into2 _ _ ⟨[d], dr, m4, h4, t7', rfl, rfl, rfl, S4⟩)
      intro j s' hI2
      obtain ⟨done, rest, m, h, t, eds, rfl, rfl, S⟩ := out2 _ _ hI2
      clear hI2 out2
      cases rest with
      | nil =>
        rw [List.append_nil] at eds
        rcases ht rfl with rfl | ⟨r, rfl⟩
        · refine draw_nil B (Room.mono (R' _) (by decide)) XZ S fun h1 t1' S1 => ?_
          dsimp only
          refine wpAny_execs_nil ?_
          dsimp only
          refine wpAny_execs_nil ?_
          dsimp only
          exact ⟨0, by decide, into0 _ _ ⟨m, h1, t1', rfl, .inr (.inr ⟨rfl, rfl, rfl, eds ▸ S1⟩)⟩⟩
        · refine draw_cons B (Room.mono (R' _) (by decide)) XZ S (by decide) fun u1 h1 t1' S1 => ?_
          refine setCh S1 fun m2 h2 t2' S2 hc => ?_
          refine wpAny_execs_cons (wpAny_If (whiteTest B XZ S2 hc fun t3' => ?_))
          rw [nl_white, if_pos rfl]
          refine wpAny_execs_cons (wpAny_Return_some ?_)
          obtain ⟨ln2, u2, vs2, k2, tt2, S2', hv2, hn2, m21, m22, m23⟩ := id S2
          refine eLocal S2' m23 ?_ (by kernel_rfl) (by kernel_rfl)
          exact fin _ _ _ _ _ _ _ S2 (by rw [eds]) rfl m23
      | cons d' r =>
        obtain ⟨f1, f2, f3, f4, f5⟩ := dig_facts d' (hds d' (by rw [eds]; simp))
        have S : LS w.params g L Z (citOf Z.qa Z.tq) (("\\" : Str) :: d' :: (wrote false r ++ tail)) (catS done) m h := by simpa [wrote] using S
        refine draw_cons B (Room.mono (R' _) (by decide)) XZ S (by decide) fun u1 h1 t1' S1 => ?_
        refine setCh S1 fun m2 h2 t2' S2 hc => ?_
        refine wpAny_execs_cons (wpAny_If (whiteTest B XZ S2 hc fun t4' => ?_))
        rw [slash_white, if_neg Bool.false_ne_true]
        refine wpAny_execs_cons (wpAny_If (eqTest S2 hc fun t5' => ?_))
        rw [if_pos (by decide +kernel)]
        refine wpAny_execs_cons (readCh B (Room.mono (R' _) (by decide)) XZ S2 fun u3 m3 h3 t6' S3 hc3 => ?_)
        dsimp only
        refine wpAny_execs_nil ?_
        dsimp only
        refine wpAny_execs_nil ?_
        dsimp only
        refine wpAny_execs_cons (addTok S3 hc3 ?_ fun m4 h4 t7' S4 => ?_)
        · rw [f5, catS_len done _ fun x hx => hds x (by rw [eds]; exact List.mem_append_left _ hx)]
          rw [eds, List.length_append] at hlen
          show 0 + _ + _ ≤ _
          omega
        refine wpAny_execs_nil ?_
        dsimp only
        refine ⟨r.length, by simp, into2 _ _ ⟨done ++ [d'], r, m4, h4, t7', by rw [eds]; simp, rfl, rfl, ?_⟩⟩
        simpa [catS, List.foldl_append] using S4
  · obtain ⟨ln2, u2, vs2, k2, tt2, S2', hv2, hn2, m21, m22, m23⟩ := id S
    refine cit_over (R' (tokEnv L)).handled S2'.getHead fun h9 k9 => ?_
    dsimp only
    refine wpAny_execs_cons (wpAny_Return_some ?_)
    have S9 := S2'.keeps k9
    refine eLocal S9 m23 ?_ (by kernel_rfl) (by kernel_rfl)
    exact fin _ _ _ _ _ _ _ ⟨ln2, u2, vs2, k2, tt2, S9, hv2, hn2, m21, m22, m23⟩ rfl rfl m23
end
section
section
variable {w : World} {A : Around} {s : Shared} {h₀ : Heap}
theorem cells_map {cm : Str → Option Value} {cs : List (Str × Addr)} {cells : List (Addr × Obj)} (Y : CellsAre cm cs cells) : cells.map (·.1) = cs.map (·.2) := by
  induction Y with
  | nil => rfl
  | cons _ _ ih => rw [List.map_cons, List.map_cons, ih]
/-- a def of the text's with cells is entered -/
theorem enterCells {mg mb : Str → Option Value} {R : Result → Shared → Prop} {n q : Str} {st : Stmt} {dV kV doc pm : Value} {c f : Addr} {args : Args} {binds : List (Str × Value)} {own : List (Addr × Obj)}
    (ho : (K w.params).lookup f = some ⟨.type "function", none, .func (mkFd n q st dV kV doc pm (.ref c)), #[]⟩) (hcd : codeIn (K w.params) (.ref c) q = true)
    (hs : (!(fScope st).isCoroutine && !(fScope st).isGenerator && (fScope st).kind == .function) = true)
    (B : Base w mg mb h₀) (hk : Sub h₀ s.heap) (O : Owns h₀ s.heap own) (hroom : A.depth < recursionLimit)
    (hbind : BindsTo s (mkFd n q st dV kV doc pm (.ref c)) args binds)
    (hkind : ∀ n, ∀ x ∈ binds, (fScope st).names.lookup x.1 = some .local ∨ ((fScope st).names.lookup x.1 = some .cell ∧ ((cellsFrom n (fScope st).names []).lookup x.1).isSome = true))
    (hnd : ((cellsFrom 0 (fScope st).names []).map (·.1)).Nodup)
    (h : ∀ g L h₁ tk cells, Base w mg mb g → g.objs.size = s.heap.objs.size → (∀ b o, b ∉ own.map (·.1) → s.heap.get? b = some o → g.get? b = some o) →
      St g L (bindL (envX q (fScope st) L f (.ref c) (cellsFrom (L + 1) (fScope st).names [])).kindOf binds fun _ => none) (cells ++ own) h₁ →
      CellsAre (bindC (envX q (fScope st) L f (.ref c) (cellsFrom (L + 1) (fScope st).names [])).kindOf binds fun _ => none) (cellsFrom (L + 1) (fScope st).names []) cells → L = s.heap.objs.size →
      wpAny (model pw w) (A.deeper (envX q (fScope st) L f (.ref c) (cellsFrom (L + 1) (fScope st).names []))) (execs (fBody st) (envX q (fScope st) L f (.ref c) (cellsFrom (L + 1) (fScope st).names []))) (fun fl s' => R (.ok (.ret (match fl with | .ret v => v | _ => .none))) s') Bot
        { s with heap := h₁, toks := tk }) :
    codeAny (model pw w) A (.call (.ref f) args) R s := by
  simp only [Bool.and_eq_true, Bool.not_eq_true', beq_iff_eq] at hs
  refine codeAny_call_function (fd := mkFd n q st dV kV doc pm (.ref c)) (body := fBody st) hroom (hk _ _ (B.X _ _ ho)) rfl hs.1.1 hs.1.2 rfl (codeRec_of (B.X.keeps hk) hcd) (hbind _ _ _ _ ?_)
  refine wpAny_newFunctionEnv_cells hs.2 (hkind _) fun env' he s' x => ?_
  subst he
  refine ⟨(B.T.nolimit.keeps hk).keeps x.toInCall.keep, codeAny_func ?_⟩
  obtain ⟨h₁, tk, rfl, _⟩ := x.done
  have hk₁ := x.toInCall.keep
  obtain ⟨cells, NC, Y⟩ := Cl.news (h₀ := s.heap) (Nat.le_refl _) fun n c hm => ⟨x.cell n c (lookup_of_mem_nodup (cellsFrom_names (fScope st).names 0 (s.heap.objs.size + 1) [] [] rfl ▸ hnd) hm), x.above n c hm⟩
  have hsz : (hideAll s.heap (own.map (·.1))).objs.size = s.heap.objs.size := hideAll_size _ _
  have em := cells_map Y
  have ap : (cells.map (·.1)).Nodup := by
    rw [em]
    exact List.pairwise_map.mpr x.apart
  refine wpAny_mono (h (hideAll s.heap (own.map (·.1))) s.heap.objs.size h₁ tk cells (B.keeps fun b o e => hideAll_get _ (hk b o e) fun q => ?_) hsz (fun b o nb e => hideAll_get _ e nb) ⟨⟨x.toInCall.ns, fun b o e => hk₁ b o (of_hideAll _ e), Nat.le_of_eq hsz⟩, fun p hp => ?_, ?_⟩ Y rfl) (fun _ _ x => x) fun _ _ x => x.elim
  · obtain ⟨p, hp, rfl⟩ := List.mem_map.mp q
    rw [(O.at_ p hp).2] at e; cases e
  · rcases List.mem_append.mp hp with hp | hp
    · refine ⟨(NC p hp).1, (NC p hp).2.1, ?_⟩
      cases q : (hideAll s.heap (own.map (·.1))).get? p.1 with
      | none => rfl
      | some o => have := of_hideAll _ q; rw [(NC p hp).2.2] at this; cases this
    · exact ⟨hk₁ _ _ (O.at_ p hp).1, Nat.ne_of_lt (Heap.lt_size (O.at_ p hp).1), hideAll_none _ (List.mem_map_of_mem hp)⟩
  · rw [List.map_append, List.nodup_append]
    refine ⟨ap, O.nd, fun a ha b hb e => ?_⟩
    obtain ⟨p, hp, e1⟩ := List.mem_map.mp ha
    obtain ⟨p', hp', e2⟩ := List.mem_map.mp hb
    have z1 := (NC p hp).2.2
    have z2 := (O.at_ p' hp').1
    have e3 : p.1 = p'.1 := (show p.1 = a from e1).trans (e.trans (show p'.1 = b from e2).symm)
    rw [e3, z2] at z1
    cases z1
end
end
section
section
variable {w : World} {A : Around} {E : Value → Shared → Prop} {s : Shared} {g : Heap} {L : Addr} {m : Str → Option Value} {news : List (Addr × Obj)}
/-- objects that a call has made -/
structure Fresh (h h' : Heap) (l : List (Addr × Obj)) : Prop where
  at_ : ∀ p ∈ l, h'.get? p.1 = some p.2 ∧ h.get? p.1 = none
  nd : (l.map (·.1)).Nodup
theorem St.madeAll {h h' : Heap} {news' l : List (Addr × Obj)} (S : St g L m news h) (S' : St g L m news' h') (e : news'.map (·.1) = news.map (·.1)) (F : Fresh h h' l) : St g L m (l ++ news') h' := by
  refine ⟨S'.F, fun p hp => ?_, ?_⟩
  · rcases List.mem_append.mp hp with hp | hp
    · exact (S.made S' e (F.at_ p hp).1 (F.at_ p hp).2).N p (.head _)
    · exact S'.N p hp
  · rw [List.map_append, List.nodup_append]
    refine ⟨F.nd, S'.nd, fun a ha b hb q => ?_⟩
    obtain ⟨p, hp, e1⟩ := List.mem_map.mp ha
    have z := (St.made (o := p.2) S S' e (F.at_ p hp).1 (F.at_ p hp).2).nd
    rw [List.map_cons, List.nodup_cons] at z
    exact z.1 ((show p.1 = a from e1) ▸ q ▸ hb)
theorem St.fresh_of {s h : Heap} {own l : List (Addr × Obj)} (S : St g L m news h) (hg : ∀ b o, b ∉ own.map (·.1) → s.get? b = some o → g.get? b = some o) (hl : ∀ p ∈ l, p ∈ news) (hn : ∀ p ∈ l, p.1 ∉ own.map (·.1)) (nd : (l.map (·.1)).Nodup) : Fresh s h l :=
  ⟨fun p hp => ⟨(S.N p (hl p hp)).1, S.new hg (hl p hp) (hn p hp)⟩, nd⟩
end
theorem strs_of : ∀ {vs : List Value} {ws : List Str}, vs.length = ws.length → (∀ (i : Nat) (v : Value), vs[i]? = some v → ∃ x u, ws[i]? = some x ∧ v = Value.str x u) → StrsAre vs ws
  | [], [], _, _ => .nil
  | v :: vs, y :: ws, e, h => by
    obtain ⟨x, u, e1, rfl⟩ := h 0 v rfl
    cases e1
    exact .cons _ _ (strs_of (by simpa using e) fun i v hv => h (i + 1) v hv)
  | [], _ :: _, e, _ => by cases e
  | _ :: _, [], e, _ => by cases e
def LxOf (fixed : List (Addr × Obj)) (xl dl xs lst : Addr) : Prop := ∀ h : Heap, (∀ p ∈ fixed, h.get? p.1 = some p.2) → Lx h xl dl xs lst
variable {w : World} {mg mb : Str → Option Value} {A : Around} {s : Shared} {h₀ : Heap}
theorem ten_facts {pl dl xl ds xs f c l1 lst : Nat} (h : [pl, dl, xl, ds, xs, f, c, 259, l1, lst].Nodup) : (∀ a ∈ [pl, dl, lst, xl, xs, ds, f, c, l1], a ≠ 259) ∧ [pl, dl, lst, xl, xs, ds, f, c, l1].Nodup := by
  simp only [List.nodup_cons, List.mem_cons, not_or, List.not_mem_nil, not_false_eq_true, and_true, List.nodup_nil] at h
  obtain ⟨⟨n01, n02, n03, n04, n05, n06, n07, n08, n09⟩, ⟨n12, n13, n14, n15, n16, n17, n18, n19⟩, ⟨n23, n24, n25, n26, n27, n28, n29⟩, ⟨n34, n35, n36, n37, n38, n39⟩, ⟨n45, n46, n47, n48, n49⟩, ⟨n56, n57, n58, n59⟩, ⟨n67, n68, n69⟩, ⟨n78, n79⟩, n89⟩ := h
  constructor
  · intro a ha
    simp only [List.mem_cons, List.not_mem_nil, or_false] at ha
    rcases ha with rfl | rfl | rfl | rfl | rfl | rfl | rfl | rfl | rfl <;> first | assumption | exact fun q => absurd q.symm (by assumption)
  · simp only [List.nodup_cons, List.mem_cons, not_or, List.not_mem_nil, not_false_eq_true, and_true, List.nodup_nil]
    repeat' apply And.intro
    all_goals first | assumption | exact fun q => absurd q.symm (by assumption)
set_option maxHeartbeats 1000000 in
theorem lexer_spec {x : Str} {t : Tok} {mean : ExcName → Option Value} {lo : List Str} (B : Base w mg mb h₀) (T : Top topProg lo mean mg mb h₀) (C : CodeHd h₀ 263 259) (hk : Sub h₀ s.heap) (R : Room A 6) (O : Owns h₀ s.heap [(259, tabObj #[])]) (hx : x.length ≤ 100) :
    codeAny (model pw w) A (.call (.ref 264) ⟨[.str x t], []⟩) (Post [(259, tabObj #[])] s fun v h' => ∃ xl dl xs lst pl t1 t2 t3 t4 tw u n k vs fixed, v = .ref xl ∧ StrsAre vs (signs x) ∧ LxOf fixed xl dl xs lst ∧
      Fresh s.heap h' ((pl, listOf #[] 0) :: (dl, lexD w.params t1 t2 t3 t4 (.int ((1 : Nat) : Int) u) (.ref xs) tw pl n) :: (lst, listOf vs.toArray k) :: fixed) ∧ ∃ ps, h'.get? 259 = some (tabObj ps)) s := by
  refine codeQ fun QQ hQ => ?_
  refine enterCells (st := stm 15) (f := 264) (binds := [("text", .str x t)]) (by rfl) (by kernel_rfl) (by kernel_rfl) B hk O (Room.mono R (by decide) : Room A 0).depth
    (BindsTo.of_eq (by rfl)) (fun n y hy => by rcases List.mem_singleton.mp hy with rfl; exact .inl (by kernel_rfl)) (by decide +kernel) ?_
  intro g L h₁ tk cells B' hz hg S hcells eL
  have ecl : cellsFrom (L + 1) (fScope (stm 15)).names [] = [(("left" : Str), L + 1)] := by rfl
  rw [ecl] at hcells
  obtain ⟨oc, rfl, hoc⟩ := hcells.one
  have R' : ∀ env, Room (A.deeper env) 5 := fun env => Room.deeper R
  generalize hm : bindL _ _ _ = m at S
  have mt : m "text" = some (.str x t) := by rw [← hm]; rfl
  clear hm
  rw [ecl]
  refine wpAny_execs_cons ?_
  walk_at "m.step"
  refine eCall (eBuiltin (v := .type "list") S B' (by rfl) (by kernel_rfl) (by decide) ?_ (by kernel_rfl) (by kernel_rfl))
  refine callWith_val (by rfl) (by rfl) (fun a e => nomatch e) (args1 ?_)
  walk_at "m.step"
  refine kw0 (call_list_str (R' (envX "_law_lexer" (fScope (stm 15)) L 264 (.ref 263) [("left", L + 1)])).handled x t (hn := by simp only [sizeLine]; exact Nat.le_trans hx (by decide)) fun h2 tk2 acc c2 hk2 hl2 hacc => ?_)
  obtain ⟨vs, rfl⟩ : ∃ l : List Value, acc = l.toArray := ⟨acc.toList, by simp⟩
  have S2 : St g L m ((h₁.objs.size, listOf vs.toArray c2) :: [(L + 1, oc), (259, tabObj #[])]) h2 := S.add hk2 hl2 (Nat.le_refl _)
  generalize h₁.objs.size = lst at S2 ⊢
  have hvs : StrsAre vs (signs x) := strs_of (by have := hacc.1; simpa [signs] using this) fun i v hv => by
    obtain ⟨c, u, hc, rfl⟩ := hacc.2 i v (by simpa using hv)
    exact ⟨⟨#[c]⟩, u, by simp [signs, hc], rfl⟩
  have S2' := S2.swap
  refine storeX_C S2'.F S2'.N (by rfl) (.head S2'.fresh) hoc (fun h3 oc' F3 N3 hoc' => ?_) (by kernel_rfl) (by kernel_rfl)
  have S3 : St g L m ((L + 1, oc') :: [(lst, listOf vs.toArray c2), (259, tabObj #[])]) h3 := ⟨F3, N3, S2'.nd⟩
  clear S S2 S2' hl2 hacc hk2 F3 N3
  dsimp only
  refine wpAny_execs_cons ?_
  walk_at "m.step"
  refine eCall (eGlobal S3 B' (by rfl : nsIn (K w.params) mainGlobals "_netrclex" = some (some (.ref 103))) ?_ (by kernel_rfl) (by kernel_rfl))
  refine callWith_K (K := K w.params) (h₀ := g) B'.X (by kernel_rfl) (args1 ?_)
  walk_at "m.step"
  refine ⟨B'.X.keeps S3.F.keep, ?_⟩
  refine newLexer S3 B' (Room.mono (R' _) (by decide)) fun xs ds ps s1 s2 s3 s4 su stw sn h4 tk4 S4 => ?_
  refine sLocal S4 (fun h5 S5 => ?_) (by kernel_rfl) (by kernel_rfl)
  dsimp only
  refine wpAny_execs_cons ?_
  have hsub : Sub h₀ g := fun b o e => hg b o (fun q => by
    have q' : b = 259 := by simpa using q
    have := (O.at_ _ (.head _)).2
    rw [q', this] at e; cases e) (hk b o e)
  refine nestDef_K (by rfl) (by rfl) (by rfl) ?_
  have S5' : St g L _ ((259, tabObj #[]) :: [(ps, listOf #[] 0), (ds, lexD w.params s1 s2 s3 s4 (.int 1 su) .none stw ps sn), (xs, instObj 103 ds), (L + 1, oc'), (lst, listOf vs.toArray c2)]) h5 := S5.permP (List.perm_append_singleton (259, tabObj #[]) [(ps, listOf #[] 0), (ds, lexD w.params s1 s2 s3 s4 (.int 1 su) .none stw ps sn), (xs, instObj 103 ds), (L + 1, oc'), (lst, listOf vs.toArray c2)]).symm
  refine nest_K (clos := [(("left" : Str), L + 1)]) S5'.F S5'.N (T.keeps hsub) (C.keeps hsub) rfl (.head S5'.fresh) trivial (by rfl) (by rfl) fun f c' o' vs' tq ctv doc h6 tk6 F6 N6 hd6 hv6 lt6 lt6' => ?_
  obtain ⟨m6, pmv, tv, S6, mst, mf⟩ : ∃ m6 pmv tv, St g L m6 ((f, nxtFn doc pmv (L + 1) c' ctv) :: (c', o') :: (259, tabObj tv) :: [(ps, listOf #[] 0), (ds, lexD w.params s1 s2 s3 s4 (.int 1 su) .none stw ps sn), (xs, instObj 103 ds), (L + 1, oc'), (lst, listOf vs.toArray c2)]) h6 ∧ m6 "stream" = some (.ref xs) ∧ True := by
    refine ⟨_, _, _, ⟨F6, N6, ?_⟩, by walk_at "m.look", trivial⟩
    rw [List.map_cons, List.map_cons, List.nodup_cons, List.nodup_cons]
    refine ⟨fun q => ?_, fun q => ?_, S5'.nd⟩
    · rcases List.mem_cons.mp q with q | q
      · exact absurd (show f = c' from q) (Nat.ne_of_gt lt6')
      · obtain ⟨p, hp, e⟩ := List.mem_map.mp q
        have z : p.1 < c' := by
          rcases List.mem_cons.mp hp with rfl | hp
          · exact lt6 (259, tabObj #[]) (.head _)
          · exact lt6 _ (.tail _ hp)
        exact absurd (show p.1 = f from e) (Nat.ne_of_lt (Nat.lt_trans z lt6'))
    · obtain ⟨p, hp, e⟩ := List.mem_map.mp q
      have z : p.1 < c' := by
        rcases List.mem_cons.mp hp with rfl | hp
        · exact lt6 (259, tabObj #[]) (.head _)
        · exact lt6 _ (.tail _ hp)
      exact absurd (show p.1 = c' from e) (Nat.ne_of_lt z)
  refine sLocal S6 (fun h7 S7 => ?_) (by kernel_rfl) (by kernel_rfl)
  dsimp only
  refine wpAny_execs_cons ?_
  refine plainObj_wpAny_Assign_Attribute ?_
  walk_at "m.step"
  walk_at "m.step"
  have S7' : St g L _ ((ds, lexD w.params s1 s2 s3 s4 (.int 1 su) .none stw ps sn) :: [(xs, instObj 103 ds), (f, nxtFn doc pmv (L + 1) c' ctv), (c', o'), (259, tabObj tv), (L + 1, oc'), (lst, listOf vs.toArray c2)]) h7 := (S7.permP ((List.perm_append_comm (l₁ := [(ps, listOf #[] 0), (ds, lexD w.params s1 s2 s3 s4 (.int 1 su) .none stw ps sn), (xs, instObj 103 ds)]) (l₂ := [(f, nxtFn doc pmv (L + 1) c' ctv), (c', o'), (259, tabObj tv)])).append_right [(L + 1, oc'), (lst, listOf vs.toArray c2)])).tail
  refine eSetDict S7' B' (C := 103) (es' := [ent w.params "lineno" s1 (.int 1 su), ent w.params "instream" s2 .none, ent w.params "whitespace" s3 (.str "\n\t\r " stw), ent w.params "pushback" s4 (.ref ps), ent w.params "read" _ (.ref f)]) (n' := sn + 1) (S7'.N _ (.tail _ (.head _))).1 rfl rfl rfl (by rfl) (by kernel_rfl) (by rfl) (by kernel_rfl) (by rfl) (by rfl) (by simp) ?_
  intro h8 S8
  obtain ⟨tr, S8⟩ : ∃ tr, St g L _ ((ds, dictOf [ent w.params "lineno" s1 (.int 1 su), ent w.params "instream" s2 .none, ent w.params "whitespace" s3 (.str "\n\t\r " stw), ent w.params "pushback" s4 (.ref ps), ent w.params "read" tr (.ref f)] (sn + 1)) :: [(xs, instObj 103 ds), (f, nxtFn doc pmv (L + 1) c' ctv), (c', o'), (259, tabObj tv), (L + 1, oc'), (lst, listOf vs.toArray c2)]) h8 := ⟨_, S8⟩
  dsimp only
  refine wpAny_execs_cons ?_
  walk_at "m.step"
  refine eCall (eGlobal S8 B' (by rfl : nsIn (K w.params) mainGlobals "_netrclex" = some (some (.ref 103))) ?_ (by kernel_rfl) (by kernel_rfl))
  refine callWith_K (K := K w.params) (h₀ := g) B'.X (by kernel_rfl) (args1 ?_)
  walk_at "m.step"
  refine ⟨B'.X.keeps S8.F.keep, ?_⟩
  refine newLexer S8 B' (Room.mono (R' _) (by decide)) fun xl dl pl t1 t2 t3 t4 u tw n h9 tk9 S9 => ?_
  dsimp only
  have nd9 := ten_facts S9.nd
  refine hQ _ _ (S9.post eL hg ⟨xl, dl, xs, lst, pl, t1, t2, t3, t4, tw, u, n, c2, vs, [(xl, instObj 103 dl), (xs, instObj 103 ds), (ds, dictOf [ent w.params "lineno" s1 (.int 1 su), ent w.params "instream" s2 .none, ent w.params "whitespace" s3 (.str "\n\t\r " stw), ent w.params "pushback" s4 (.ref ps), ent w.params "read" tr (.ref f)] (sn + 1)), (f, nxtFn doc pmv (L + 1) c' ctv), (c', o'), (L + 1, oc')], rfl, hvs, fun h' k => ?_, S9.fresh_of hg (fun p hp => ?_) (fun p hp => ?_) ?_, tv, (S9.N (259, tabObj tv) (.tail _ (.tail _ (.tail _ (.tail _ (.tail _ (.tail _ (.tail _ (.head _))))))))).1⟩)
  · exact ⟨k (xl, instObj 103 dl) (.head _), ds, f, L + 1, c', oc', o', vs', tq, doc, pmv, ctv, [ent w.params "lineno" s1 (.int 1 su), ent w.params "instream" s2 .none, ent w.params "whitespace" s3 (.str "\n\t\r " stw), ent w.params "pushback" s4 (.ref ps), ent w.params "read" tr (.ref f)], sn + 1, k (xs, instObj 103 ds) (.tail _ (.head _)), k (ds, dictOf [ent w.params "lineno" s1 (.int 1 su), ent w.params "instream" s2 .none, ent w.params "whitespace" s3 (.str "\n\t\r " stw), ent w.params "pushback" s4 (.ref ps), ent w.params "read" tr (.ref f)] (sn + 1)) (.tail _ (.tail _ (.head _))), by rfl, k (f, nxtFn doc pmv (L + 1) c' ctv) (.tail _ (.tail _ (.tail _ (.head _)))), ⟨k (c', o') (.tail _ (.tail _ (.tail _ (.tail _ (.head _))))), hd6, hv6⟩, k (L + 1, oc') (.tail _ (.tail _ (.tail _ (.tail _ (.tail _ (.head _)))))), hoc'⟩
  · rcases List.mem_cons.mp hp with rfl | hp
    · exact .head _
    rcases List.mem_cons.mp hp with rfl | hp
    · exact .tail _ (.head _)
    rcases List.mem_cons.mp hp with rfl | hp
    · exact .tail _ (.tail _ (.tail _ (.tail _ (.tail _ (.tail _ (.tail _ (.tail _ (.tail _ (.head _)))))))))
    rcases List.mem_cons.mp hp with rfl | hp
    · exact .tail _ (.tail _ (.head _))
    rcases List.mem_cons.mp hp with rfl | hp
    · exact .tail _ (.tail _ (.tail _ (.tail _ (.head _))))
    rcases List.mem_cons.mp hp with rfl | hp
    · exact .tail _ (.tail _ (.tail _ (.head _)))
    rcases List.mem_cons.mp hp with rfl | hp
    · exact .tail _ (.tail _ (.tail _ (.tail _ (.tail _ (.head _)))))
    rcases List.mem_cons.mp hp with rfl | hp
    · exact .tail _ (.tail _ (.tail _ (.tail _ (.tail _ (.tail _ (.head _))))))
    obtain rfl := List.mem_singleton.mp hp
    exact .tail _ (.tail _ (.tail _ (.tail _ (.tail _ (.tail _ (.tail _ (.tail _ (.head _))))))))
  · exact fun q => nd9.1 p.1 (List.mem_map_of_mem (f := (·.1)) hp) (List.mem_singleton.mp q)
  · exact nd9.2
end
section
/-! the choices of places, in plain numbers -/
def restN (r : List Nat) (p : List Nat) : Nat := (p.map (r.getD · 0)).sum % 5
def stepN (r : List Nat) (es : List (Nat × List Nat)) (p : List Nat) : List (Nat × List Nat) := if es.any (·.1 == restN r p) then es else es ++ [(restN r p, p)]
def extN (k : Nat) (p : List Nat) : List (List Nat) := [p ++ [k], p ++ [k + 4]]
def roundN (r : List Nat) (k : Nat) (es : List (Nat × List Nat)) : List (Nat × List Nat) := ((es.map (·.2)).flatMap (extN k)).foldl (stepN r) []
def tabN (r : List Nat) : Nat → List (Nat × List Nat)
  | 0 => [(restN r [8], [8])]
  | k + 1 => roundN r k (tabN r k)
/-- which rests are due, as a row of five answers -/
def dueN (r : List Nat) : Nat → List Bool
  | 0 => (List.range 5).map fun d => d == r.getD 8 0
  | k + 1 => (List.range 5).map fun d => (dueN r k).zipIdx.any fun b => b.1 && ((b.2 + r.getD k 0) % 5 == d || (b.2 + r.getD (k + 4) 0) % 5 == d)
def dueList (b : List Bool) : List Nat := (b.zipIdx.filter (·.1)).map (·.2)
/-- the row of rests that has so many of each -/
def rowOf (c : List Nat) : List Nat := (c.zipIdx.flatMap fun b => List.replicate b.1 b.2)
def okRound (r : List Nat) (k : Nat) : Bool :=
  let d := dueList (dueN r (k + 1))
  (List.range 5).all (fun i => (tabN r (k + 1)).any (·.1 == i) == d.contains i) && decide (k + 2 ≤ d.length) && (tabN r (k + 1)).all (fun e => e.1 < 5)
def okEnd (r : List Nat) : Bool := match (tabN r 4).find? (·.1 == 0) with
  | some e => e.2.length == 5 && decide e.2.Nodup && restN r e.2 == 0
  | none => false
def okRow (r : List Nat) : Bool := (List.range 4).all (okRound r) && okEnd r
def countsOf (a : Nat) : List (List Nat) := (List.range 5).flatMap fun b => (List.range 5).flatMap fun c => (List.range 5).flatMap fun d => (List.range 5).filterMap fun e => if a + b + c + d + e == 9 then some [a, b, c, d, e] else none
theorem ok_0 : (countsOf 0).all (fun c => okRow (rowOf c)) = true := by kernel_rfl
theorem ok_1 : (countsOf 1).all (fun c => okRow (rowOf c)) = true := by kernel_rfl
theorem ok_2 : (countsOf 2).all (fun c => okRow (rowOf c)) = true := by kernel_rfl
theorem ok_3 : (countsOf 3).all (fun c => okRow (rowOf c)) = true := by kernel_rfl
theorem ok_4 : (countsOf 4).all (fun c => okRow (rowOf c)) = true := by kernel_rfl
theorem ok_all : ∀ {a : Nat}, a ≤ 4 → (countsOf a).all (fun c => okRow (rowOf c)) = true
  | 0, _ => ok_0
  | 1, _ => ok_1
  | 2, _ => ok_2
  | 3, _ => ok_3
  | 4, _ => ok_4
  | n + 5, h => absurd h (by omega)
theorem row_ok {a b c d e : Nat} (h : a + b + c + d + e = 9) (ha : a ≤ 4) (hb : b ≤ 4) (hc : c ≤ 4) (hd : d ≤ 4) (he : e ≤ 4) : okRow (rowOf [a, b, c, d, e]) = true := by
  refine List.all_eq_true.mp (ok_all ha) [a, b, c, d, e] ?_
  unfold countsOf
  simp only [List.mem_flatMap, List.mem_filterMap, List.mem_range]
  exact ⟨b, by omega, c, by omega, d, by omega, e, by omega, by simp [h]⟩
end
section
/-! tables within a ledger -/
inductive RowsIn (l : List (Addr × Obj)) : List Value → List (Str × Str) → Prop
  | nil : RowsIn l [] []
  | cons {a : Addr} {x y : Str} {t u : Tok} {rs : List Value} {es : List (Str × Str)} : (a, tupOf [.str x t, .str y u]) ∈ l → RowsIn l rs es → RowsIn l (.ref a :: rs) ((x, y) :: es)
theorem RowsIn.rows {l : List (Addr × Obj)} {rs : List Value} {es : List (Str × Str)} (R : RowsIn l rs es) {h : Heap} (k : ∀ p ∈ l, h.get? p.1 = some p.2) : Rows h rs es := by
  induction R with
  | nil => exact .nil
  | cons hm _ ih => exact .cons ⟨_, k _ hm, rfl, 0, rfl⟩ ih
theorem RowsIn.mono {l l' : List (Addr × Obj)} {rs : List Value} {es : List (Str × Str)} (R : RowsIn l rs es) (k : ∀ p ∈ l, p ∈ l') : RowsIn l' rs es := by
  induction R with
  | nil => exact .nil
  | cons hm _ ih => exact .cons (k _ hm) ih
theorem RowsIn.snoc {l : List (Addr × Obj)} {rs : List Value} {es : List (Str × Str)} {a : Addr} {x y : Str} {t u : Tok} (R : RowsIn l rs es) (hm : (a, tupOf [.str x t, .str y u]) ∈ l) : RowsIn l (rs ++ [.ref a]) (es ++ [(x, y)]) := by
  induction R with
  | nil => exact .cons hm .nil
  | cons hm' _ ih => exact .cons hm' ih
structure TabX (P : Params) (l : List (Addr × Obj)) (hx hl : Addr) (rs : List Value) (es : List (Str × Str)) : Prop where
  inst : ∃ hd th n, (hx, instObj 253 hd) ∈ l ∧ (hd, hdrDict P hl th n) ∈ l
  rows : RowsIn l rs es
theorem TabX.mono {P : Params} {l l' : List (Addr × Obj)} {hx hl : Addr} {rs : List Value} {es : List (Str × Str)} (T : TabX P l hx hl rs es) (k : ∀ p ∈ l, p ∈ l') : TabX P l' hx hl rs es :=
  ⟨let ⟨hd, th, n, a, b⟩ := T.inst; ⟨hd, th, n, k _ a, k _ b⟩, T.rows.mono k⟩
/-- a table that is done -/
def TabIn (P : Params) (l : List (Addr × Obj)) (hx : Addr) (es : List (Str × Str)) : Prop := ∃ hl rs k, TabX P l hx hl rs es ∧ (hl, listOf rs.toArray k) ∈ l
theorem TabIn.mono {P : Params} {l l' : List (Addr × Obj)} {hx : Addr} {es : List (Str × Str)} (T : TabIn P l hx es) (k : ∀ p ∈ l, p ∈ l') : TabIn P l' hx es :=
  let ⟨hl, rs, kk, X, m⟩ := T; ⟨hl, rs, kk, X.mono k, k _ m⟩
theorem TabX.tab {P : Params} {l : List (Addr × Obj)} {hx hl : Addr} {rs : List Value} {es : List (Str × Str)} {k : Nat} (T : TabX P l hx hl rs es) {h : Heap} (kk : ∀ p ∈ l, h.get? p.1 = some p.2) (hm : h.get? hl = some (listOf rs.toArray k)) : Tab P h hx hl rs :=
  ⟨let ⟨hd, th, n, a, b⟩ := T.inst; ⟨hd, th, n, kk _ a, kk _ b⟩, k, hm⟩
section
variable {w : World} {mg mb : Str → Option Value} {A : Around} {E : Value → Shared → Prop} {s : Shared} {g : Heap} {L : Addr} {m : Str → Option Value} {news : List (Addr × Obj)}
theorem St.all {h : Heap} (S : St g L m news h) : ∀ p ∈ news, h.get? p.1 = some p.2 := fun p hp => (S.N p hp).1
/-- table.get(x), on a table whose list stands first -/
theorem getAt {hx hl : Addr} {rs : List Value} {es : List (Str × Str)} {k : Nat} {x low : Str} {t : Tok} {Q : Value → Shared → Prop} (S : St g L m ((hl, listOf rs.toArray k) :: news) s.heap) (B : Base w mg mb g) (R : Room A 4) (T : TabX w.params news hx hl rs es)
    (hlow : Txt.lower x = low) (hxl : x.length ≤ 5592405) (hN : Nam low) (hll : low.length ≤ 100) (hes : ∀ e ∈ es, Txt.lower e.1 = e.1 ∧ e.1.length ≤ 100)
    (h : ∀ v h' t', St g L m ((hl, listOf rs.toArray k) :: news) h' → (match es.find? (fun e => e.1 == low) with | some e => ∃ u, v = .str e.2 u | none => v = .none) → Q v { s with heap := h', toks := t' }) :
    wpAny (model pw w) A (call (.ref 200) [.ref hx, .str x t] []) Q E s := by
  have hall : ∀ p ∈ news, s.heap.get? p.1 = some p.2 := fun p hp => S.all p (.tail _ hp)
  refine call_post (get_spec B S.F.keep R (T.tab hall S.getHead) (T.rows.rows hall) hlow hxl hN hll hes) ?_
  rintro v h' t' hz hk hv
  exact h v h' t' (S.keeps fun b o e => hk b o (by simp) e) hv
theorem addTo {hx hl : Addr} {rs : List Value} {es : List (Str × Str)} {k : Nat} {x y : Str} {t u : Tok} {Q : Value → Shared → Prop} (S : St g L m ((hl, listOf rs.toArray k) :: news) s.heap) (B : Base w mg mb g) (R : Room A 4) (T : TabX w.params news hx hl rs es)
    (hN : Nam x) (hV : Val y) (hyl : y.length ≤ 1000) (hlen : rs.length ≤ 1000)
    (h : ∀ a k' u' h' t', St g L m ((hl, listOf (rs ++ [Value.ref a]).toArray k') :: (a, tupOf [.str x t, .str y u']) :: news) h' → Q .none { s with heap := h', toks := t' }) :
    wpAny (model pw w) A (call (.ref 250) [.ref hx, .str x t, .str y u] []) Q E s := by
  obtain ⟨hd, th, n, a1, a2⟩ := T.inst
  have e1 := S.all _ (.tail _ a1)
  have e2 := S.all _ (.tail _ a2)
  have S' : St g L m ([(hl, listOf rs.toArray k)] ++ news) s.heap := S
  refine call_post (add_spec B S.F.keep R e1 e2 S'.owns (S.fresh _ a1) (S.fresh _ a2) hN hV hyl hlen) ?_
  rintro v h' t' hz hk ⟨rfl, a, k', u', q1, q2, q3⟩
  have S3 := S'.after (own' := [(hl, listOf (rs ++ [Value.ref a]).toArray k')]) hz hk rfl (fun p hp => by
    rcases List.mem_singleton.mp hp with rfl
    exact q1)
  exact h a k' u' h' t' (St.swap (S.made S3 rfl q2 q3))
theorem pushTo {xl dl xs pl : Addr} {t1 t2 t3 t4 tw u : Tok} {ln : Nat} {x : Str} {t : Tok} {vs : List Value} {n k : Nat} {Q : Value → Shared → Prop} (S : St g L m ((pl, listOf vs.toArray k) :: news) s.heap) (B : Base w mg mb g) (R : Room A 2)
    (hI : s.heap.get? xl = some (instObj 103 dl)) (hD : s.heap.get? dl = some (lexD w.params t1 t2 t3 t4 (.int ln u) (.ref xs) tw pl n)) (hn : vs.length ≤ 100)
    (h : ∀ k' h' t', St g L m ((pl, listOf (vs ++ [Value.str x t]).toArray k') :: news) h' → Q .none { s with heap := h', toks := t' }) :
    wpAny (model pw w) A (call (.ref 100) [.ref xl, .str x t] []) Q E s := by
  have S' : St g L m ([(pl, listOf vs.toArray k)] ++ news) s.heap := S
  refine call_post (push_spec B S.F.keep R hI hD S'.owns hn) ?_
  rintro v h' t' hz hk ⟨rfl, k', q1⟩
  exact h k' h' t' (S'.after (own' := [(pl, listOf (vs ++ [Value.str x t]).toArray k')]) hz hk rfl (fun p hp => by
    rcases List.mem_singleton.mp hp with rfl
    exact q1))
theorem popFrom {xl dl xs pl : Addr} {t1 t2 t3 t4 tw u : Tok} {ln : Nat} {x : Str} {t : Tok} {vs : List Value} {n k : Nat} {Q : Value → Shared → Prop} (S : St g L m ((pl, listOf (Value.str x t :: vs).toArray k) :: news) s.heap) (B : Base w mg mb g) (R : Room A 2)
    (hI : s.heap.get? xl = some (instObj 103 dl)) (hD : s.heap.get? dl = some (lexD w.params t1 t2 t3 t4 (.int ln u) (.ref xs) tw pl n)) (hn : vs.length ≤ 100)
    (h : ∀ k' h' t', St g L m ((pl, listOf vs.toArray k') :: news) h' → Q (.str x t) { s with heap := h', toks := t' }) :
    wpAny (model pw w) A (call (.ref 93) [.ref xl] []) Q E s := by
  have S' : St g L m ([(pl, listOf (Value.str x t :: vs).toArray k)] ++ news) s.heap := S
  refine call_post (pop_spec B S.F.keep R hI hD S'.owns hn) ?_
  rintro v h' t' hz hk ⟨rfl, k', q1⟩
  exact h k' h' t' (S'.after (own' := [(pl, listOf vs.toArray k')]) hz hk rfl (fun p hp => by
    rcases List.mem_singleton.mp hp with rfl
    exact q1))
end
end
section
/-! places as texts -/
def encD (d : Nat) : Str := Str.ofString (toString (d : Int))
def enc (p : List Nat) : Str := p.foldl (fun a d => a ++ encD d) ""
def pathsN : Nat → List (List Nat)
  | 0 => [[8]]
  | k + 1 => (pathsN k).flatMap (extN k)
def nameS (d : Nat) : Str := "rest-" ++ encD d
def askS (d : Nat) : Str := "Rest-" ++ encD d
def pathOk (k : Nat) (p : List Nat) : Bool := (paths k).contains (enc p) && decide ((enc p).length ≤ 10) && (signs (enc p) == p.map encD) && p.all (fun d => decide (d < 9) && (PySem.intText? (encD d) == some (d : Int))) && decide (p.length ≤ 5)
theorem paths_ok : ∀ k, k ≤ 4 → ∀ p ∈ pathsN k, pathOk k p = true := by
  intro k hk p hp
  have h : ((List.range 5).all fun k => (pathsN k).all (pathOk k)) = true := by kernel_rfl
  exact List.all_eq_true.mp (List.all_eq_true.mp h k (List.mem_range.mpr (by omega))) p hp
theorem path_val {k : Nat} (hk : k ≤ 4) {p : List Nat} (hp : p ∈ pathsN k) : Val (enc p) := by
  have h := paths_ok k hk p hp
  unfold pathOk at h
  simp only [Bool.and_eq_true] at h
  exact val_of hk (by simpa using h.1.1.1.1)
theorem path_len {k : Nat} (hk : k ≤ 4) {p : List Nat} (hp : p ∈ pathsN k) : (enc p).length ≤ 10 := by
  have h := paths_ok k hk p hp
  unfold pathOk at h
  simp only [Bool.and_eq_true, decide_eq_true_eq] at h
  exact h.1.1.1.2
theorem path_signs {k : Nat} (hk : k ≤ 4) {p : List Nat} (hp : p ∈ pathsN k) : signs (enc p) = p.map encD := by
  have h := paths_ok k hk p hp
  unfold pathOk at h
  simp only [Bool.and_eq_true, beq_iff_eq] at h
  exact h.1.1.2
theorem path_digit {k : Nat} (hk : k ≤ 4) {p : List Nat} (hp : p ∈ pathsN k) {d : Nat} (hd : d ∈ p) : d < 9 ∧ PySem.intText? (encD d) = some (d : Int) := by
  have h := paths_ok k hk p hp
  unfold pathOk at h
  simp only [Bool.and_eq_true, List.all_eq_true, decide_eq_true_eq, beq_iff_eq] at h
  exact h.1.2 d hd
theorem path_short {k : Nat} (hk : k ≤ 4) {p : List Nat} (hp : p ∈ pathsN k) : p.length ≤ 5 := by
  have h := paths_ok k hk p hp
  unfold pathOk at h
  simp only [Bool.and_eq_true, decide_eq_true_eq] at h
  exact h.2
theorem name_facts : ∀ d, d < 5 → nameS d ∈ names ∧ Txt.lower (askS d) = nameS d ∧ (askS d).length ≤ 100 ∧ (nameS d).length ≤ 100 ∧ Txt.lower (nameS d) = nameS d := by decide +kernel
theorem name_inj : ∀ d, d < 5 → ∀ e, e < 5 → (nameS d == nameS e) = (d == e) := by decide +kernel
theorem enc_ext (p : List Nat) (d : Nat) : enc (p ++ [d]) = enc p ++ encD d := by
  unfold enc
  rw [List.foldl_append]
  rfl
def tabS (es : List (Nat × List Nat)) : List (Str × Str) := es.map fun e => (nameS e.1, enc e.2)
theorem rest_lt (r p : List Nat) : restN r p < 5 := Nat.mod_lt _ (by decide)
def TabOk (k : Nat) (es : List (Nat × List Nat)) : Prop := ∀ e ∈ es, e.1 < 5 ∧ e.2 ∈ pathsN k
theorem stepN_ok {k : Nat} {r : List Nat} {es : List (Nat × List Nat)} {p : List Nat} (h : TabOk k es) (hp : p ∈ pathsN k) : TabOk k (stepN r es p) := by
  unfold stepN
  split
  · exact h
  · intro e he
    rcases List.mem_append.mp he with he | he
    · exact h e he
    · rcases List.mem_singleton.mp he with rfl
      exact ⟨rest_lt r p, hp⟩
theorem fold_ok {k : Nat} {r : List Nat} : ∀ (ps : List (List Nat)) (es : List (Nat × List Nat)), TabOk k es → (∀ p ∈ ps, p ∈ pathsN k) → TabOk k (ps.foldl (stepN r) es)
  | [], _, h, _ => h
  | p :: ps, es, h, hp => fold_ok ps _ (stepN_ok h (hp p (.head _))) fun q hq => hp q (.tail _ hq)
theorem tabN_ok (r : List Nat) : ∀ k, TabOk k (tabN r k)
  | 0 => fun e he => by
    rcases List.mem_singleton.mp he with rfl
    exact ⟨rest_lt r _, .head _⟩
  | k + 1 => fold_ok _ _ (fun e he => by simp at he) fun p hp => by
    obtain ⟨q, hq, hp⟩ := List.mem_flatMap.mp hp
    obtain ⟨e, he, rfl⟩ := List.mem_map.mp hq
    exact List.mem_flatMap.mpr ⟨e.2, (tabN_ok r k e he).2, hp⟩
theorem stepN_len {r : List Nat} {es : List (Nat × List Nat)} {p : List Nat} : (stepN r es p).length ≤ es.length + 1 := by
  unfold stepN
  split
  · omega
  · rw [List.length_append]; exact Nat.le_refl _
theorem fold_len {r : List Nat} : ∀ (ps : List (List Nat)) (es : List (Nat × List Nat)), (ps.foldl (stepN r) es).length ≤ es.length + ps.length
  | [], _ => Nat.le_refl _
  | p :: ps, es => by
    have h1 := fold_len (r := r) ps (stepN r es p)
    have h2 := stepN_len (r := r) (es := es) (p := p)
    rw [List.foldl_cons, List.length_cons]
    omega
theorem ext_len (k : Nat) : ∀ ps : List (List Nat), (ps.flatMap (extN k)).length = 2 * ps.length
  | [] => rfl
  | p :: ps => by
    rw [List.flatMap_cons, List.length_append, ext_len k ps, List.length_cons]
    show 2 + _ = _
    omega
theorem tabN_len (r : List Nat) : ∀ k, (tabN r k).length ≤ 2 ^ k
  | 0 => Nat.le_refl _
  | k + 1 => by
    have h1 := fold_len (r := r) (((tabN r k).map (·.2)).flatMap (extN k)) []
    have h2 := tabN_len r k
    rw [ext_len, List.length_map] at h1
    have e : tabN r (k + 1) = (((tabN r k).map (·.2)).flatMap (extN k)).foldl (stepN r) [] := rfl
    rw [e, Nat.pow_succ]
    simp only [List.length_nil] at h1
    omega
theorem find_name {es : List (Nat × List Nat)} {k d : Nat} (h : TabOk k es) (hd : d < 5) : (tabS es).find? (fun e => e.1 == nameS d) = (es.find? (·.1 == d)).map fun e => (nameS e.1, enc e.2) := by
  induction es with
  | nil => rfl
  | cons e es ih =>
    have he := (h e (.head _)).1
    show List.find? _ ((nameS e.1, enc e.2) :: tabS es) = _
    rw [List.find?_cons, List.find?_cons, name_inj e.1 he d hd]
    cases e.1 == d with
    | true => rfl
    | false => exact ih fun x hx => h x (.tail _ hx)
theorem any_find {es : List (Nat × List Nat)} {d : Nat} : es.any (·.1 == d) = (es.find? (·.1 == d)).isSome := by
  rw [Bool.eq_iff_iff, List.find?_isSome, List.any_eq_true]
end
section
section
variable {w : World} {A : Around} {E : Value → Shared → Prop} {s : Shared}
theorem sumOf {l : Addr} {vs : List Value} {ns : List Int} {Q : Value → Shared → Prop} (hh : A.handled = none) (hl : s.heap.IsList l vs.toArray) (hi : IntsAre vs ns)
    (h : ∀ h' tk t', Sub s.heap h' → Q (.int ns.sum t') { s with heap := h', toks := tk }) : wpAny (model pw w) A (call (.builtin "sum") [.ref l]) Q E s := by
  obtain ⟨xs, e⟩ := hi.allInts.items
  rw [e] at hl
  refine sum_intListG hh hl fun h' tk t' hk => ?_
  rw [preSum_eq, List.take_of_length_le (by simp)]
  have e2 : (xs.toList.map (·.1)) = ns := by
    have h1 := hi.numsOf
    rw [show vs = vs.toArray.toList from rfl, e, nums_intItems] at h1
    exact h1
  first
    | (rw [e2]; exact h h' tk t' hk)
    | (have z := h h' tk t' hk; rw [← e2] at z; exact z)
theorem strD {d : Nat} {t : Tok} {Q : Value → Shared → Prop} (hd : d ≤ 1000) (h : Q (.str (encD d) s.toks) { s with toks := s.toks + 1 }) : wpAny (model pw w) A (call (.type "str") [.int d t]) Q E s :=
  str_of_int_fit (a := d) (N := 4611686018427387904) (by rw [if_neg (by omega)]; omega) (by decide) fun _ => h
end
/-- what a word leaves -/
def resid (ws : List Str) : List Nat := ws.map fun x => (left x).toNat
theorem left_nat (x : Str) : left x = ((left x).toNat : Int) ∧ (left x).toNat < 5 := by
  unfold left
  have h1 := Int.fmod_nonneg_of_pos ((PySem.intText? x).getD 0) (show (0 : Int) < 5 by decide)
  have h2 := Int.fmod_lt_of_pos ((PySem.intText? x).getD 0) (show (0 : Int) < 5 by decide)
  omega
theorem resid_get {ws : List Str} {i : Nat} (hi : i < ws.length) : (resid ws).getD i 0 = (left ws[i]).toNat := by
  unfold resid
  rw [List.getD_eq_getElem?_getD, List.getElem?_map, List.getElem?_eq_getElem hi]; rfl
variable {w : World} {mg mb : Str → Option Value} {A : Around} {s : Shared} {h₀ : Heap}
abbrev rEnv (L : Addr) : Env := envX "_law_rounds" (fScope (stm 17)) L 276 (.ref 275) [("row", L + 1)]
end
section
variable {w : World} {mg mb : Str → Option Value} {A : Around} {s : Shared} {h₀ : Heap}
def forBody : Stmt → List Stmt
  | .For _ _ b _ _ => b
  | _ => []
def kBody : List Stmt := forBody ((fBody (stm 17)).getD 4 (.Pass default))
def turnBody : List Stmt := forBody (kBody.getD 1 (.Pass default))
def placeBody : List Stmt := forBody (turnBody.getD 1 (.Pass default))
/-- what of the row stays put -/
structure RowAt (g : Heap) (lrow : Addr) (vs : List Value) (ws : List Str) : Prop where
  at_ : ∃ k, g.get? lrow = some (listOf vs.toArray k)
  txts : StrsAre vs ws
  good : ∀ x ∈ ws, Good x
  len : ws.length = 9
theorem ints_append {vs us : List Value} {ws xs : List Int} (S : IntsAre vs ws) (T : IntsAre us xs) : IntsAre (vs ++ us) (ws ++ xs) := by
  induction S with
  | nil => exact T
  | cons y t S ih => exact .cons y t ih
theorem rest_sum {ws : List Str} : ∀ (p : List Nat), (∀ d ∈ p, d < ws.length) → (p.map fun d => left (ws.getD d "")).sum = (((p.map ((resid ws).getD · 0)).sum : Nat) : Int)
  | [], _ => rfl
  | d :: p, h => by
    have hd := h d (.head _)
    rw [List.map_cons, List.map_cons, List.sum_cons, List.sum_cons, rest_sum p fun x hx => h x (.tail _ hx), resid_get hd]
    have eg : ws.getD d "" = ws[d] := by simp [List.getD_eq_getElem?_getD, hd]
    rw [eg, (left_nat ws[d]).1]
    push_cast
    rfl
theorem rest_fmod {ws : List Str} {p : List Nat} (h : ∀ d ∈ p, d < ws.length) : ((p.map fun d => left (ws.getD d "")).sum).fmod 5 = ((restN (resid ws) p : Nat) : Int) := by
  rw [rest_sum p h]
  unfold restN
  rw [Int.fmod_eq_emod_of_nonneg _ (by decide)]
  rfl
theorem St.rot3 {g h : Heap} {L : Addr} {m : Str → Option Value} {a b c : Addr × Obj} {r : List (Addr × Obj)} (S : St g L m (a :: b :: c :: r) h) : St g L m (c :: a :: b :: r) h :=
  S.perm (fun x hx => by
    simp only [List.mem_cons] at hx ⊢
    rcases hx with h | h | h | h <;> simp [h]) (by
    have := S.nd
    simp only [List.map_cons, List.nodup_cons, List.mem_cons, not_or] at this ⊢
    obtain ⟨⟨a1, a2, a3⟩, ⟨b1, b2⟩, c1, d⟩ := this
    exact ⟨⟨Ne.symm a2, Ne.symm b1, c1⟩, ⟨a1, a3⟩, b2, d⟩)
theorem place_step {g : Heap} {L xl dl xs pl lrow hx hl : Addr} {m : Str → Option Value} {t1 t2 t3 t4 tw u tc td : Tok} {ln n kP kW : Nat} {vs vsP rsW : List Value} {ws q : List Str} {news X : List (Addr × Obj)} {oc : Obj} {p : List Nat} {d k : Nat} {es : List (Nat × List Nat)}
    (B : Base w mg mb g) (R : Room A 7) (hI : g.get? xl = some (instObj 103 dl)) (hD : g.get? dl = some (lexD w.params t1 t2 t3 t4 (.int ln u) (.ref xs) tw pl n)) (hrow : RowAt g lrow vs ws)
    (S : St g L m ((pl, listOf vsP.toArray kP) :: (hl, listOf rsW.toArray kW) :: news) s.heap) (hoc : oc.data = .cell (some (.ref lrow))) (hocm : (L + 1, oc) ∈ news)
    (mc : m "choice" = some (.str (enc p) tc)) (mp : m "place" = some (.int (d : Nat) td)) (mw : m "wider" = some (.ref hx)) (ml : m "lexer" = some (.ref xl))
    (hX : ∀ p ∈ X, p ∈ news) (T : TabX w.params X hx hl rsW (tabS es)) (hes : TabOk k es) (hk : k ≤ 4) (hp : p ++ [d] ∈ pathsN k) (hd : d ≤ 8) (hq : StrsAre vsP q) (hql : q.length ≤ 60) (hrl : rsW.length ≤ 60) :
    wpAny (model pw w) A (execs placeBody (rEnv L)) (fun f s₃ => f = .next ∧ ∃ m' vsP' kP' rsW' kW' new h' t', s₃ = { s with heap := h', toks := t' } ∧ St g L m' ((pl, listOf vsP'.toArray kP') :: (hl, listOf rsW'.toArray kW') :: (new ++ news)) h' ∧
      TabX w.params (new ++ X) hx hl rsW' (tabS (stepN (resid ws) es (p ++ [d]))) ∧ StrsAre vsP' (if es.any (·.1 == restN (resid ws) (p ++ [d])) then q else q ++ [enc (p ++ [d])]) ∧ rsW'.length ≤ rsW.length + 1 ∧ ∀ z : Str, z ≠ "longer" → z ≠ "name" → m' z = m z) Bot s := by
  have ebody : placeBody = placeBody := rfl
  have hpl := path_len hk hp
  show wpAny _ _ (execs (_ :: _) _) _ _ _
  refine wpQ fun QQ hQ => ?_
  refine wpAny_execs_cons ?_
  walk_at "m.step"
  walk_at "m.step"
  walk_at "m.step"
  refine eCall (eBuiltin (v := .type "str") S B (by rfl) (by kernel_rfl) (by decide) ?_ (by kernel_rfl) (by kernel_rfl))
  refine callWith_val (by rfl) (by rfl) (fun a e => nomatch e) (args1 ?_)
  walk_at "m.step"
  refine kw0 (strD (by omega) ?_)
  refine add_str (fun t6 tk6 => ?_) (by
    rw [enc_ext, Str.length_append] at hpl
    simp only [sizeLine]; omega)
  rw [← enc_ext]
  refine sLocal S (fun h2 S2 => ?_) (by kernel_rfl) (by kernel_rfl)
  obtain ⟨m2, S2, mlg, mo⟩ : ∃ m2, St g L m2 ((pl, listOf vsP.toArray kP) :: (hl, listOf rsW.toArray kW) :: news) h2 ∧ m2 "longer" = some (.str (enc (p ++ [d])) t6) ∧ ∀ z : Str, z ≠ "longer" → m2 z = m z := ⟨_, S2, if_pos rfl, fun z hz => if_neg hz⟩
  dsimp only
  refine wpAny_execs_cons ?_
  walk_at "m.step"
  refine eCall (eBuiltin (v := .type "str") S2 B (by rfl) (by kernel_rfl) (by decide) ?_ (by kernel_rfl) (by kernel_rfl))
  refine callWith_val (by rfl) (by rfl) (fun a e => nomatch e) (args1 ?_)
  walk_at "m.step"
  refine eCall (eBuiltin (v := .builtin "sum") S2 B (by rfl) (by kernel_rfl) (by decide) ?_ (by kernel_rfl) (by kernel_rfl))
  refine callWith_val (by rfl) (by rfl) (fun a e => nomatch e) (args1 ?_)
  have hsg := path_signs hk hp
  refine eListComp (L := L) (m := m2) (cl := [("row", L + 1)]) B (by rfl) (by decide +kernel) (by rfl) (by decide +kernel) ?_
  walk_at "m.step"
  refine cut _ (iter_str (w := w) (g₀ := g) (L := L) (news := _) R.handled S2) fun it s₂ F => ⟨_, _, _, _, (fun i ys => IntsAre ys.toList (((p ++ [d]).map fun d => left (ws.getD d "")).take i)), F, ?_, ?_, ?_, ?_⟩
  · have : (signs (enc (p ++ [d]))).length = (p ++ [d]).length := by rw [hsg, List.length_map]
    have h5 := path_short hk hp
    have : (enc (p ++ [d])).cps.size = (p ++ [d]).length := by rw [← this]; simp [signs]
    omega
  · exact .nil
  · intro g' C D i v own m₁ ys k' h t B' hg' hi hP hJ S'
    obtain ⟨c, u1, hc1, rfl⟩ := hP
    have hget : (signs (enc (p ++ [d])))[i]? = some ⟨#[c]⟩ := by
      simp only [signs, List.getElem?_map, Array.getElem?_toList, hc1, Option.map_some]
    rw [hsg, List.getElem?_map] at hget
    obtain ⟨di, hdi, edi⟩ := Option.map_eq_some_iff.mp hget
    obtain ⟨hd9, hint⟩ := path_digit hk hp (List.mem_of_getElem? hdi)
    rw [edi] at hint
    have hi9 : di < ws.length := by rw [hrow.len]; exact hd9
    obtain ⟨tg, hgv⟩ := strs_get hrow.txts di hi9
    obtain ⟨kr, hkr⟩ := hrow.at_
    refine aName (env := compEnvC _ _ C (rEnv L)) S' (fun h8 S8 => ?_) (by rfl) (by kernel_rfl)
    refine wpAny_tests_nil ?_
    rw [if_pos rfl]
    refine eCall (nGlobal S8 B' (by rfl : nsIn (K w.params) mainGlobals "_law_left" = some (some (.ref 271))) ?_ (by rfl) (by rfl) (by kernel_rfl))
    refine callWith_fn (by rfl) (by rfl) (args1 (Subscript_ ?_))
    refine nCell (by rfl : ([(("row" : Str), L + 1)] : List (Str × Addr)).lookup ("row" : Str) = some (L + 1)) (S8.F.keep _ _ (hg' _ _ (S2.N (L + 1, oc) (.tail _ (.tail _ hocm))).1)) hoc ?_ (by rfl) (by kernel_rfl)
    refine eCall (nBuiltin (v := .type "int") S8 B' (by rfl) (by kernel_rfl) (by decide) ?_ (by rfl) (by rfl) (by rfl) (by kernel_rfl))
    refine callWith_val (by rfl) (by rfl) (fun a e => nomatch e) (args1 (nLocal S8 (by walk_at "m.look") ?_ (by rfl) (by kernel_rfl)))
    refine kw0 (KIN.call_text hint (by show 1 ≤ 640; decide) ?_)
    refine item_litK (vs := vs) (k := (di : Nat)) ⟨_, S8.F.keep _ _ (hg' _ _ (S2.F.keep _ _ hkr)), rfl, kr, rfl⟩ (by omega) (by omega) (by rw [Int.toNat_natCast]; exact hgv) ?_ (by with_unfolding_all rfl)
    refine kw0 ⟨⟨271, _, _, rfl, S8.F.keep _ _ (B'.X _ _ (by rfl : (K w.params).lookup 271 = some (ob271 w.params))), rfl⟩, ?_⟩
    refine call_post (left_good B' S8.F.keep (Room.mono R (by decide)) (hrow.good _ (List.getElem_mem hi9))) ?_
    rintro v h9 t9 hz9 hk9 ⟨u9, rfl⟩
    refine ⟨_, h9, t9, rfl, S8.keeps (fun b o e => hk9 b o (by simp) e), ?_⟩
    show IntsAre _ _
    rw [Array.toList_push, List.take_add_one, List.getElem?_map, hdi]
    have eg : ws.getD di "" = ws[di] := by simp [List.getD_eq_getElem?_getD, hi9]
    simp only [Option.map_some, Option.toList_some, eg]
    exact ints_append hJ (.cons _ _ .nil)
  · intro D ys k' h t S' hJ
    have hJ : IntsAre _ _ := hJ
    have hsz : (enc (p ++ [d])).cps.size = (p ++ [d]).length := by
      have : (signs (enc (p ++ [d]))).length = (p ++ [d]).length := by rw [hsg, List.length_map]
      rw [← this]; simp [signs]
    rw [List.take_of_length_le (by rw [List.length_map, hsz]; exact Nat.le_refl _)] at hJ
    refine kw0 (sumOf R.handled (vs := ys.toList) ⟨_, S'.getHead, rfl, k', by simp⟩ hJ fun h3 tk3 t3 hk3 => ?_)
    have S3 := (S'.tail).keeps hk3
    walk_at "m.step"
    refine mod_int' (by decide) ?_
    rw [rest_fmod fun x hx => by rw [hrow.len]; exact (path_digit hk hp hx).1]
    have hr5 := rest_lt (resid ws) (p ++ [d])
    obtain ⟨f1, f2, f3, f4, f5⟩ := name_facts _ hr5
    refine kw0 (strD (by omega) ?_)
    refine sLocal S3 (fun h4 S4 => ?_) (by kernel_rfl) (by kernel_rfl)
    obtain ⟨m4, tn, S4, mn4, mo4⟩ : ∃ m4 tn, St g L m4 ((pl, listOf vsP.toArray kP) :: (hl, listOf rsW.toArray kW) :: news) h4 ∧ m4 "name" = some (.str (encD (restN (resid ws) (p ++ [d]))) tn) ∧ ∀ z : Str, z ≠ "name" → m4 z = m2 z := ⟨_, _, S4, if_pos rfl, fun z hz => if_neg hz⟩
    have mw4 : m4 "wider" = some (.ref hx) := (mo4 _ (by decide)).trans ((mo _ (by decide)).trans mw)
    have ml4 : m4 "lexer" = some (.ref xl) := (mo4 _ (by decide)).trans ((mo _ (by decide)).trans ml)
    have mg4 : m4 "longer" = some (.str (enc (p ++ [d])) t6) := (mo4 _ (by decide)).trans mlg
    have mz4 : ∀ z : Str, z ≠ "longer" → z ≠ "name" → m4 z = m z := fun z h1 h2 => (mo4 z h2).trans (mo z h1)
    clear mo4 mo S' S3 hk3 hJ S2 F
    obtain ⟨hdx, thx, nhx, i1, i2⟩ := T.inst
    have IW : ∀ {h' m' a b}, St g L m' (a :: b :: news) h' → InstAt h' hx (instObj 253 hdx) 253 (some (hdrDict w.params hl thx nhx)) := fun S => ⟨(S.N _ (.tail _ (.tail _ (hX _ i1)))).1, rfl, rfl, (S.N _ (.tail _ (.tail _ (hX _ i2)))).1⟩
    have hesn : ∀ e ∈ tabS es, Txt.lower e.1 = e.1 ∧ e.1.length ≤ 100 := fun e he => by
      obtain ⟨x, hx, rfl⟩ := List.mem_map.mp he
      obtain ⟨_, _, _, g4, g5⟩ := name_facts _ (hes x hx).1
      exact ⟨g5, g4⟩
    dsimp only
    refine wpAny_execs_cons ?_
    walk_at "m.step"
    refine wpAny_isTrue_Compare1 (eMeth ?_)
    walk_at "m.step"
    refine method_inst S4.F B.X (IW S4) (by kernel_rfl) (by rfl : findIn (K w.params) (.ref 253) "get" = some (some (.ref 200))) (by kernel_rfl) (by rfl) ?_
    refine callWith_fn (by rfl) (by rfl) (args1 ?_)
    walk_at "m.step"
    walk_at "m.step"
    walk_at "m.step"
    refine add_str (fun t7 tk7 => ?_) (by
      have : (askS (restN (resid ws) (p ++ [d]))).length = ("Rest-" : Str).length + (encD (restN (resid ws) (p ++ [d]))).length := Str.length_append _ _
      simp only [sizeLine]; omega)
    refine kw0 ⟨⟨200, _, _, rfl, S4.F.keep _ _ (B.X _ _ (by rfl : (K w.params).lookup 200 = some (ob200 w.params))), rfl⟩, ?_⟩
    refine getAt (hx := hx) (hl := hl) (x := askS (restN (resid ws) (p ++ [d]))) (low := nameS (restN (resid ws) (p ++ [d]))) (es := tabS es) S4.swap B (Room.mono R (by decide)) (T.mono fun p hp => .tail _ (hX p hp)) f2 (by omega) (nam_of f1) f4 hesn fun v h5 t5 S5 hv5 => ?_
    rw [find_name hes hr5] at hv5
    walk_at "m.step"
    have hany := any_find (es := es) (d := restN (resid ws) (p ++ [d]))
    cases hf : es.find? (·.1 == restN (resid ws) (p ++ [d])) with
    | some e =>
      rw [hf] at hv5 hany
      obtain ⟨u5, rfl⟩ := hv5
      refine wpAny_is_other (by rfl) (fun e => nomatch e) ?_
      walk_at "m.step"
      rw [if_neg Bool.false_ne_true]
      repeat' walk_at "m.step"
      refine wpAny_execs_nil ?_
      have hst : stepN (resid ws) es (p ++ [d]) = es := by unfold stepN; rw [hany]; rfl
      refine hQ _ _ ⟨rfl, m4, vsP, kP, rsW, kW, [], h5, _, rfl, S5.swap, ?_, ?_, by omega, mz4⟩
      · rw [hst]; exact T
      · rw [hany]; exact hq
    | none =>
      rw [hf] at hv5 hany
      cases hv5
      refine wpAny_is_self (by rfl) ?_
      walk_at "m.step"
      rw [if_pos rfl]
      refine wpAny_execs_cons (wpAny_Expr (eMeth ?_))
      walk_at "m.step"
      have S5s := S5.swap
      refine method_inst S5.F B.X (IW S5s) (by kernel_rfl) (by rfl : findIn (K w.params) (.ref 253) "add_header" = some (some (.ref 250))) (by kernel_rfl) (by rfl) ?_
      refine callWith_fn (by rfl) (by rfl) (args2 ?_)
      walk_at "m.step"
      walk_at "m.step"
      walk_at "m.step"
      refine add_str (fun t8 tk8 => ?_) (by
        have : (nameS (restN (resid ws) (p ++ [d]))).length = ("rest-" : Str).length + (encD (restN (resid ws) (p ++ [d]))).length := Str.length_append _ _
        simp only [sizeLine]; omega)
      walk_at "m.step"
      refine kw0 ⟨⟨250, _, _, rfl, S5.F.keep _ _ (B.X _ _ (by rfl : (K w.params).lookup 250 = some (ob250 w.params))), rfl⟩, ?_⟩
      refine addTo (hx := hx) (hl := hl) (x := nameS (restN (resid ws) (p ++ [d]))) (y := enc (p ++ [d])) (es := tabS es) S5 B (Room.mono R (by decide)) (T.mono fun p hp => .tail _ (hX p hp)) (nam_of f1) (path_val hk hp) (by omega) (by omega) fun a k6 u6 h6 t6' S6 => ?_
      dsimp only
      have S6' := S6.rot3
      refine wpAny_execs_cons (wpAny_Expr (eMeth ?_))
      walk_at "m.step"
      refine method_inst S6'.F B.X (⟨S6'.F.keep _ _ hI, rfl, rfl, S6'.F.keep _ _ hD⟩) (by kernel_rfl) (by rfl : findIn (K w.params) (.ref 103) "push_token" = some (some (.ref 100))) (by kernel_rfl) (by rfl) ?_
      refine callWith_fn (by rfl) (by rfl) (args1 ?_)
      walk_at "m.step"
      refine kw0 ⟨⟨100, _, _, rfl, S6'.F.keep _ _ (B.X _ _ (by rfl : (K w.params).lookup 100 = some (ob100 w.params))), rfl⟩, ?_⟩
      refine pushTo S6' B (Room.mono R (by decide)) (S6'.F.keep _ _ hI) (S6'.F.keep _ _ hD) (by rw [strs_len hq]; omega) fun k7 h7 t7' S7 => ?_
      dsimp only
      refine wpAny_execs_nil ?_
      dsimp only
      refine wpAny_execs_nil ?_
      have hst : stepN (resid ws) es (p ++ [d]) = es ++ [(restN (resid ws) (p ++ [d]), p ++ [d])] := by unfold stepN; rw [hany]; rfl
      refine hQ _ _ ⟨rfl, m4, _, k7, _, k6, [(a, tupOf [.str (nameS (restN (resid ws) (p ++ [d]))) t8, .str (enc (p ++ [d])) u6])], h7, _, rfl, S7, ?_, ?_, by rw [List.length_append]; exact Nat.le_refl _, mz4⟩
      · rw [hst]
        have e : tabS (es ++ [(restN (resid ws) (p ++ [d]), p ++ [d])]) = tabS es ++ [(nameS (restN (resid ws) (p ++ [d])), enc (p ++ [d]))] := by unfold tabS; rw [List.map_append]; rfl
        rw [e]
        exact ⟨(T.mono fun p hp => .tail _ hp).inst, RowsIn.snoc (T.rows.mono fun p hp => .tail _ hp) (.head _)⟩
      · rw [hany]
        exact strs_append hq (.cons _ _ .nil)
end
section
section
variable {g h : Heap} {L : Addr} {m : Str → Option Value}
theorem St.unweave {a b c d : Addr × Obj} {new X : List (Addr × Obj)} (S : St g L m (c :: d :: (new ++ a :: b :: X)) h) : St g L m (a :: b :: c :: d :: (new ++ X)) h :=
  S.permP (((List.perm_middle (l₁ := c :: d :: new) (a := a) (l₂ := b :: X)).trans ((List.perm_middle (l₁ := c :: d :: new) (a := b) (l₂ := X)).cons a)).symm)
theorem St.weave {a b c d : Addr × Obj} {X : List (Addr × Obj)} (S : St g L m (a :: b :: c :: d :: X) h) : St g L m (c :: d :: a :: b :: X) h :=
  S.permP (((List.perm_middle (l₁ := [c, d]) (a := a) (l₂ := b :: X)).trans ((List.perm_middle (l₁ := [c, d]) (a := b) (l₂ := X)).cons a)))
end
def encs (es : List (Nat × List Nat)) : List Str := es.map fun e => enc e.2
theorem step_q {r : List Nat} {es : List (Nat × List Nat)} {p : List Nat} {rest : List Str} : (if es.any (·.1 == restN r p) then rest ++ encs es else (rest ++ encs es) ++ [enc p]) = rest ++ encs (stepN r es p) := by
  unfold stepN
  split
  · rfl
  · unfold encs; rw [List.map_append, List.append_assoc]; rfl
variable {w : World} {mg mb : Str → Option Value} {A : Around} {s : Shared} {h₀ : Heap}
theorem turn_step {g : Heap} {L xl dl xs pl lrow hx hl : Addr} {m : Str → Option Value} {t1 t2 t3 t4 tw u tp tk : Tok} {ln n kP kW : Nat} {vs vsP rsW : List Value} {ws rest : List Str} {news X : List (Addr × Obj)} {oc : Obj} {p : List Nat} {k : Nat} {es : List (Nat × List Nat)}
    (B : Base w mg mb g) (R : Room A 7) (hI : g.get? xl = some (instObj 103 dl)) (hD : g.get? dl = some (lexD w.params t1 t2 t3 t4 (.int ln u) (.ref xs) tw pl n)) (hrow : RowAt g lrow vs ws)
    (S : St g L m ((pl, listOf (Value.str (enc p) tp :: vsP).toArray kP) :: (hl, listOf rsW.toArray kW) :: news) s.heap) (hoc : oc.data = .cell (some (.ref lrow))) (hocm : (L + 1, oc) ∈ news)
    (mk : m "k" = some (.int (k : Nat) tk)) (mw : m "wider" = some (.ref hx)) (ml : m "lexer" = some (.ref xl))
    (hX : ∀ p ∈ X, p ∈ news) (T : TabX w.params X hx hl rsW (tabS es)) (hes : TabOk (k + 1) es) (hk : k < 4) (hp : p ∈ pathsN k) (hq : StrsAre vsP (rest ++ encs es)) (hql : rest.length + es.length ≤ 40) (hrl : rsW.length ≤ 40) :
    wpAny (model pw w) A (execs turnBody (rEnv L)) (fun f s₃ => f = .next ∧ ∃ m' vsP' kP' rsW' kW' new h' t', s₃ = { s with heap := h', toks := t' } ∧ St g L m' ((pl, listOf vsP'.toArray kP') :: (hl, listOf rsW'.toArray kW') :: (new ++ news)) h' ∧
      TabX w.params (new ++ X) hx hl rsW' (tabS ((extN k p).foldl (stepN (resid ws)) es)) ∧ StrsAre vsP' (rest ++ encs ((extN k p).foldl (stepN (resid ws)) es)) ∧ rsW'.length ≤ rsW.length + 2 ∧ ∀ z : Str, z ≠ "longer" → z ≠ "name" → z ≠ "choice" → z ≠ "place" → m' z = m z) Bot s := by
  show wpAny _ _ (execs (_ :: _) _) _ _ _
  refine wpQ fun QQ hQ => ?_
  refine wpAny_execs_cons ?_
  walk_at "m.step"
  refine eMeth ?_
  walk_at "m.step"
  refine method_inst S.F B.X (⟨S.F.keep _ _ hI, rfl, rfl, S.F.keep _ _ hD⟩) (by kernel_rfl) (by rfl : findIn (K w.params) (.ref 103) "get_token" = some (some (.ref 93))) (by kernel_rfl) (by rfl) ?_
  refine callWith_fn (by rfl) (by rfl) (args0 (kw0 ⟨⟨93, _, _, rfl, S.F.keep _ _ (B.X _ _ (by rfl : (K w.params).lookup 93 = some (ob93 w.params))), rfl⟩, ?_⟩))
  have hvl := strs_len hq
  refine popFrom S B (Room.mono R (by decide)) (S.F.keep _ _ hI) (S.F.keep _ _ hD) (by rw [hvl, List.length_append, encs, List.length_map]; omega) fun k2 h2 t2' S2 => ?_
  refine sLocal S2 (fun h3 S3 => ?_) (by kernel_rfl) (by kernel_rfl)
  obtain ⟨m3, S3, mc3, mo3⟩ : ∃ m3, St g L m3 ((pl, listOf vsP.toArray k2) :: (hl, listOf rsW.toArray kW) :: news) h3 ∧ m3 "choice" = some (.str (enc p) tp) ∧ ∀ z : Str, z ≠ "choice" → m3 z = m z := ⟨_, S3, if_pos rfl, fun z hz => if_neg hz⟩
  have mk3 : m3 "k" = some (.int (k : Nat) tk) := (mo3 _ (by decide)).trans mk
  dsimp only
  refine wpAny_execs_cons ?_
  refine eFor (List_ (args2 ?_))
  walk_at "m.step"
  walk_at "m.step"
  walk_at "m.step"
  walk_at "m.step"
  refine add_int ?_
  refine eNewList S3 (fun ll h4 _ S4 => ?_) (Nat.le_of_ble_eq_true rfl)
  obtain ⟨t4', S4⟩ : ∃ t4', St g L m3 ((ll, listOf #[.int (k : Nat) tk, .int ((k + 4 : Nat) : Int) t4'] 0) :: (pl, listOf vsP.toArray k2) :: (hl, listOf rsW.toArray kW) :: news) h4 := ⟨_, S4⟩
  refine eForList (A := A) (env := rEnv L) (items := #[.int (k : Nat) tk, .int ((k + 4 : Nat) : Int) t4']) R.handled (S := S4) ⟨_, S4.getHead, rfl, 0, rfl⟩
    (fun i m₁ news₁ => ∃ vsP' kP' rsW' kW' new, news₁ = (ll, listOf #[.int (k : Nat) tk, .int ((k + 4 : Nat) : Int) t4'] 0) :: (pl, listOf vsP'.toArray kP') :: (hl, listOf rsW'.toArray kW') :: (new ++ news) ∧
      (∀ z : Str, z ≠ "longer" → z ≠ "name" → z ≠ "place" → m₁ z = m3 z) ∧ TabX w.params (new ++ X) hx hl rsW' (tabS (((extN k p).take i).foldl (stepN (resid ws)) es)) ∧ StrsAre vsP' (rest ++ encs (((extN k p).take i).foldl (stepN (resid ws)) es)) ∧ rsW'.length ≤ rsW.length + i)
    ⟨vsP, k2, rsW, kW, [], rfl, fun _ _ _ _ => rfl, T, hq, Nat.le_refl _⟩ ?_ ?_ ?_ ?_
  · rintro i m₁ news₁ h o it ⟨vsP', kP', rsW', kW', new, rfl, _⟩ S'
    exact ⟨_, (S'.N _ (.tail _ (.head _))).1, rfl, 0, rfl⟩
  · intro it v i s₁ P hx hI hP
    exact wpAny_pure hP
  · rintro i v it o m₁ news₁ h t hv ⟨vsP', kP', rsW', kW', new, rfl, mz, T', hq', hr'⟩ S'
    obtain ⟨d, td, rfl, hd8, hpd, htake, hi2⟩ : ∃ (d : Nat) (td : Tok), v = .int (d : Nat) td ∧ d ≤ 8 ∧ p ++ [d] ∈ pathsN (k + 1) ∧ (extN k p).take (i + 1) = (extN k p).take i ++ [p ++ [d]] ∧ i < 2 := by
      match i with
      | 0 =>
        have e : Value.int (k : Nat) tk = v := by simpa using hv
        exact ⟨k, tk, e.symm, by omega, List.mem_flatMap.mpr ⟨p, hp, by simp [extN]⟩, rfl, by decide⟩
      | 1 =>
        have e : Value.int ((k + 4 : Nat) : Int) t4' = v := by simpa using hv
        exact ⟨k + 4, t4', e.symm, by omega, List.mem_flatMap.mpr ⟨p, hp, by simp [extN]⟩, rfl, by decide⟩
      | i + 2 => simp at hv
    have hmem : ∀ x ∈ (extN k p).take i, x ∈ pathsN (k + 1) := fun x hx => List.mem_flatMap.mpr ⟨p, hp, List.mem_of_mem_take hx⟩
    have hesi := fold_ok (r := resid ws) _ es hes hmem
    have hleni := fold_len (r := resid ws) ((extN k p).take i) es
    have htl : ((extN k p).take i).length ≤ 2 := by rw [List.length_take]; exact Nat.le_trans (Nat.min_le_right _ _) (by simp [extN])
    refine aName (env := rEnv L) S' (fun h8 S8 => ?_) (by rfl) (by kernel_rfl)
    obtain ⟨m8, S8, mp8, mo8⟩ : ∃ m8, St g L m8 ((it, o) :: (ll, listOf #[.int (k : Nat) tk, .int ((k + 4 : Nat) : Int) t4'] 0) :: (pl, listOf vsP'.toArray kP') :: (hl, listOf rsW'.toArray kW') :: (new ++ news)) h8 ∧ m8 "place" = some (.int (d : Nat) td) ∧ ∀ z : Str, z ≠ "place" → m8 z = m₁ z := ⟨_, S8, if_pos rfl, fun z hz => if_neg hz⟩
    refine cut _ (place_step (X := new ++ X) (k := k + 1) (p := p) (d := d) B R hI hD hrow S8.weave hoc (.tail _ (.tail _ (List.mem_append_right _ hocm))) ((mo8 _ (by decide)).trans ((mz _ (by decide) (by decide) (by decide)).trans mc3)) mp8 ((mo8 _ (by decide)).trans ((mz _ (by decide) (by decide) (by decide)).trans ((mo3 _ (by decide)).trans mw))) ((mo8 _ (by decide)).trans ((mz _ (by decide) (by decide) (by decide)).trans ((mo3 _ (by decide)).trans ml)))
      (fun x hx => .tail _ (.tail _ (List.mem_append.mpr ((List.mem_append.mp hx).imp id (hX x))))) T' hesi (by omega) hpd hd8 hq' (by rw [List.length_append, encs, List.length_map]; omega) (by omega)) ?_
    rintro f s₃ ⟨rfl, m', vs9, k9, rs9, kw9, new9, h9, t9, rfl, S9, T9, q9, r9, z9⟩
    refine ⟨m', _, h9, t9, rfl, ⟨vs9, k9, rs9, kw9, new9 ++ new, rfl, fun z e1 e2 e3 => (z9 z e1 e2).trans ((mo8 z e3).trans (mz z e1 e2 e3)), ?_, ?_, by omega⟩, ?_⟩
    · rw [htake, List.foldl_append, List.append_assoc]; exact T9
    · rw [htake, List.foldl_append]
      rw [step_q] at q9
      exact q9
    · rw [List.append_assoc]; exact S9.unweave
  · rintro m₁ news₁ h t ⟨vsP', kP', rsW', kW', new, rfl, mz, T', hq', hr'⟩ S'
    dsimp only
    refine wpAny_execs_nil ?_
    exact hQ _ _ ⟨rfl, m₁, vsP', kP', rsW', kW', new, h, t, rfl, S'.tail, T', hq', hr', fun z e1 e2 e3 e4 => (mz z e1 e2 e4).trans (mo3 z e3)⟩
end
section
section
variable {w : World} {A : Around} {E : Value → Shared → Prop} {s : Shared} {env : Env} {g : Heap} {L : Addr} {m : Str → Option Value} {news : List (Addr × Obj)}
theorem range_small' : ∀ n : Nat, n < 101 → Builtin.Range.small 0 (n : Int) 1 = true := by decide +kernel
theorem range_small {n : Nat} (hn : n ≤ 100) : Builtin.Range.small 0 (n : Int) 1 = true := range_small' n (by omega)
theorem eForRange {x : Str} {px : Pos} {body : List Stmt} {Q : Flow → Shared → Prop} {r : Addr} {n : Nat} {t u v : Tok} (hh : A.handled = none) (S : St g L m news s.heap) (hr : IsRange s.heap r 0 (n : Int) 1 t u v) (hn : n ≤ 100)
    (J : Nat → (Str → Option Value) → List (Addr × Obj) → Prop) (hJ : J 0 m news)
    (turn : ∀ i t own m₁ news₁ h t', i < n → J i m₁ news₁ → St g L m₁ (own ++ news₁) h →
      wpAny (model pw w) A (assign (.Name x px) env (.int (i : Nat) t)) (fun _ s₂ => wpAny (model pw w) A (execs body env) (fun f s₃ => match f with
        | .next | .cont => ∃ m₂ news₂ h' t', s₃ = { s with heap := h', toks := t' } ∧ J (i + 1) m₂ news₂ ∧ St g L m₂ (own ++ news₂) h'
        | .brk => Q .next s₃
        | .ret v => Q (.ret v) s₃) Bot s₂) Bot { s with heap := h, toks := t' })
    (done : ∀ m₁ news₁ h t, J n m₁ news₁ → St g L m₁ news₁ h → Q .next { s with heap := h, toks := t }) :
    wpAny (model pw w) A (pyIter (.ref r)) (fun it s₂ => codeAny (model pw w) A (.forLoop (.Name x px) it body [] env) (fun r s' => match r with | .ok f => Q f s' | .error e => cameBackBy (model pw w) A env E e s') s₂) E s := by
  refine wpAny_pyIter_range hr (range_small hn) ?_
  have hrs : Builtin.Range.rangeSize 0 (n : Int) 1 = (n : Int) := by
    unfold Builtin.Range.rangeSize; simp; omega
  rw [hrs]
  have hI : (s.heap.push { cls := .type "range_iterator", data := .fields #[rawInt 0, rawInt (n : Int), rawInt 1] }).get? s.heap.objs.size = some { cls := .type "range_iterator", data := .fields #[rawInt 0, rawInt (n : Int), rawInt 1] } := Heap.get?_push_size _ rfl
  refine eForT (s := { s with heap := s.heap.push { cls := .type "range_iterator", data := .fields #[rawInt 0, rawInt (n : Int), rawInt 1] } }) (KTurns.ofWalks (LCg.range_walks hh 0 n) (fun i v s' Q E _ hQ => wpAny_pure hQ)) (fun i h hx b hb => by rcases List.mem_singleton.mp hb with rfl; exact ⟨_, hx⟩) (by show Heap.get? _ _ = _; rw [hI]; simp [rawInt]) (by rw [get_push_one rfl]; exact S.push _) J hJ (fun b hb nb => absurd hb nb) ?_ done
  rintro i v own m₁ news₁ h t' hi ⟨t, rfl⟩ hJ S'
  rw [Int.zero_add]
  exact turn i t own m₁ news₁ h t' hi hJ S'
end
end
section
variable {w : World} {mg mb : Str → Option Value} {A : Around} {s : Shared} {h₀ : Heap}
theorem k_step {g : Heap} {L xl dl xs pl lrow hxT D : Addr} {m : Str → Option Value} {t1 t2 t3 t4 tw u tk : Tok} {ln n kP kD : Nat} {vs vsP rs : List Value} {ws : List Str} {news X : List (Addr × Obj)} {oc : Obj} {k : Nat}
    (B : Base w mg mb g) (R : Room A 7) (hI : g.get? xl = some (instObj 103 dl)) (hD : g.get? dl = some (lexD w.params t1 t2 t3 t4 (.int ln u) (.ref xs) tw pl n)) (hrow : RowAt g lrow vs ws)
    (S : St g L m ((pl, listOf vsP.toArray kP) :: (D, listOf rs.toArray kD) :: news) s.heap) (hoc : oc.data = .cell (some (.ref lrow))) (hocm : (L + 1, oc) ∈ news)
    (mk : m "k" = some (.int (k : Nat) tk)) (mt : m "table" = some (.ref hxT)) (ml : m "lexer" = some (.ref xl)) (mr : m "rounds" = some (.ref D))
    (hX : ∀ p ∈ X, p ∈ news) (T : TabIn w.params X hxT (tabS (tabN (resid ws) k))) (hk : k < 4) (hq : StrsAre vsP (encs (tabN (resid ws) k))) (hrl : rs.length ≤ 10) :
    wpAny (model pw w) A (execs kBody (rEnv L)) (fun f s₃ => f = .next ∧ ∃ m' vsP' kP' kD' hxW new h' t', s₃ = { s with heap := h', toks := t' } ∧ St g L m' ((pl, listOf vsP'.toArray kP') :: (D, listOf (rs ++ [Value.ref hxW]).toArray kD') :: (new ++ news)) h' ∧
      TabIn w.params (new ++ X) hxW (tabS (tabN (resid ws) (k + 1))) ∧ StrsAre vsP' (encs (tabN (resid ws) (k + 1))) ∧ m' "table" = some (.ref hxW) ∧ m' "lexer" = m "lexer" ∧ m' "rounds" = m "rounds") Bot s := by
  show wpAny _ _ (execs (_ :: _) _) _ _ _
  refine wpQ fun QQ hQ => ?_
  refine wpAny_execs_cons ?_
  walk_at "m.step"
  refine eCall (eGlobal S B (by rfl : nsIn (K w.params) mainGlobals "Headers" = some (some (.ref 253))) ?_ (by kernel_rfl) (by kernel_rfl))
  refine callWith_K0 (K := K w.params) (B.X.keeps S.F.keep) (by kernel_rfl) ?_
  refine newHeaders S B (Room.mono R (by decide)) fun hxW dx hl th nh h2 tk2 S2 => ?_
  refine sLocal S2 (fun h3 S3 => ?_) (by kernel_rfl) (by kernel_rfl)
  obtain ⟨m3, S3, mw3, mo3⟩ : ∃ m3, St g L m3 ((hl, listOf #[] 0) :: (dx, hdrDict w.params hl th nh) :: (hxW, instObj 253 dx) :: (pl, listOf vsP.toArray kP) :: (D, listOf rs.toArray kD) :: news) h3 ∧ m3 "wider" = some (.ref hxW) ∧ ∀ z : Str, z ≠ "wider" → m3 z = m z := ⟨_, S3, if_pos rfl, fun z hz => if_neg hz⟩
  have mt3 : m3 "table" = some (.ref hxT) := (mo3 _ (by decide)).trans mt
  dsimp only
  refine wpAny_execs_cons ?_
  refine eFor (eCall (eBuiltin (v := .type "range") S3 B (by rfl) (by kernel_rfl) (by decide) ?_ (by kernel_rfl) (by kernel_rfl)))
  refine callWith_val (by rfl) (by rfl) (fun a e => nomatch e) (args1 ?_)
  refine eCall (eBuiltin (v := .builtin "len") S3 B (by rfl) (by kernel_rfl) (by decide) ?_ (by kernel_rfl) (by kernel_rfl))
  refine callWith_val (by rfl) (by rfl) (fun a e => nomatch e) (args1 ?_)
  walk_at "m.step"
  obtain ⟨hlT, rsT, kT, TX, hlm⟩ := T
  obtain ⟨hdT, thT, nT, i1, i2⟩ := TX.inst
  have up : ∀ {p}, p ∈ X → p ∈ (hl, listOf #[] 0) :: (dx, hdrDict w.params hl th nh) :: (hxW, instObj 253 dx) :: (pl, listOf vsP.toArray kP) :: (D, listOf rs.toArray kD) :: news := fun hp => .tail _ (.tail _ (.tail _ (.tail _ (.tail _ (hX _ hp)))))
  have hrsl : rsT.length = (tabN (resid ws) k).length := by
    have := (TX.rows.rows (h := h3) (fun p hp => S3.all p (up hp))).len
    rw [this]; simp [tabS]
  have htl := tabN_len (resid ws) k
  have hp2 : 2 ^ k ≤ 8 := by
    have : k = 0 ∨ k = 1 ∨ k = 2 ∨ k = 3 := by omega
    rcases this with rfl | rfl | rfl | rfl <;> decide
  refine kw0 (PySem.W.len_K S3.F B.X (⟨S3.all _ (up i1), rfl, rfl, S3.all _ (up i2)⟩ : InstAt h3 hxT (instObj 253 hdT) 253 (some (hdrDict w.params hlT thT nT))) (by rfl : findIn (K w.params) (.ref 253) "__len__" = some (some (.ref 159))) (by kernel_rfl) ?_)
  refine call_post (len_spec B S3.F.keep (Room.in1 (n := 2) (Room.mono R (by decide))) (TX.tab (fun p hp => S3.all p (up hp)) (S3.all _ (up hlm))) (by omega)) ?_
  rintro v h4 t4' hz4 hk4 ⟨u4, rfl⟩
  have S4 := S3.keeps (fun b o e => hk4 b o (by simp) e)
  refine ⟨⟨by omega, by omega⟩, ?_⟩
  rw [hrsl]
  refine kw0 (call_range_1 ?_)
  have S5 := S4.push { cls := .type "range", data := .fields #[.int 0 (t4' + 1), .int ((tabN (resid ws) k).length : Nat) t4', .int 1 (t4' + 1 + 1)] }
  generalize hrg : h4.objs.size = rg at S5 ⊢
  have S6 : St g L m3 ((pl, listOf vsP.toArray kP) :: (hl, listOf ([] : List Value).toArray 0) :: ([] ++ ((D, listOf rs.toArray kD) :: (dx, hdrDict w.params hl th nh) :: (hxW, instObj 253 dx) :: news))) _ := S5.tail.permP
    ((((List.perm_middle (l₁ := [(dx, hdrDict w.params hl th nh), (hxW, instObj 253 dx)]) (a := (D, listOf rs.toArray kD)) (l₂ := news)).symm.cons (hl, listOf ([] : List Value).toArray 0)).cons (pl, listOf vsP.toArray kP)).trans
      (List.perm_middle (l₁ := [(hl, listOf ([] : List Value).toArray 0), (dx, hdrDict w.params hl th nh), (hxW, instObj 253 dx)]) (a := (pl, listOf vsP.toArray kP)) (l₂ := (D, listOf rs.toArray kD) :: news)).symm)
  have hq0 : StrsAre vsP (encs (tabN (resid ws) k)) := hq
  refine eForRange (env := rEnv L) (n := (tabN (resid ws) k).length) R.handled S6 S5.getHead (by omega)
    (fun j m₁ news₁ => ∃ vsP' kP' rsW' kW' new, news₁ = (pl, listOf vsP'.toArray kP') :: (hl, listOf rsW'.toArray kW') :: (new ++ ((D, listOf rs.toArray kD) :: (dx, hdrDict w.params hl th nh) :: (hxW, instObj 253 dx) :: news)) ∧
      (∀ z : Str, z ≠ "longer" → z ≠ "name" → z ≠ "choice" → z ≠ "place" → z ≠ "turn" → m₁ z = m3 z) ∧
      TabX w.params (new ++ ((dx, hdrDict w.params hl th nh) :: (hxW, instObj 253 dx) :: X)) hxW hl rsW' (tabS (((((tabN (resid ws) k).take j).map (·.2)).flatMap (extN k)).foldl (stepN (resid ws)) [])) ∧
      StrsAre vsP' (encs ((tabN (resid ws) k).drop j) ++ encs (((((tabN (resid ws) k).take j).map (·.2)).flatMap (extN k)).foldl (stepN (resid ws)) [])) ∧ rsW'.length ≤ 2 * j)
    ?_ ?_ ?_
  · refine ⟨vsP, kP, [], 0, [], rfl, fun _ _ _ _ _ _ => rfl, ⟨⟨dx, th, nh, .tail _ (.head _), .head _⟩, .nil⟩, ?_, Nat.zero_le _⟩
    show StrsAre vsP (encs (tabN (resid ws) k) ++ [])
    rw [List.append_nil]; exact hq
  · rintro i t own m₁ news₁ h t' hi ⟨vsP', kP', rsW', kW', new, rfl, mz, T', hq', hr'⟩ S'
    have S1 := S'.permP (List.perm_append_comm (l₁ := (pl, listOf vsP'.toArray kP') :: (hl, listOf rsW'.toArray kW') :: (new ++ ((D, listOf rs.toArray kD) :: (dx, hdrDict w.params hl th nh) :: (hxW, instObj 253 dx) :: news))) (l₂ := own))
    refine aName (env := rEnv L) S1 (fun h8 S8 => ?_) (by rfl) (by kernel_rfl)
    generalize hm8 : (fun y => if y = ("turn" : Str) then some (Value.int (i : Nat) t) else m₁ y) = m8 at S8
    have mo8 : ∀ z : Str, z ≠ "turn" → m8 z = m₁ z := fun z hz => by rw [← hm8]; exact if_neg hz
    have m83 : ∀ z : Str, z ≠ "longer" → z ≠ "name" → z ≠ "choice" → z ≠ "place" → z ≠ "turn" → m8 z = m3 z := fun z a b c d e => (mo8 z e).trans (mz z a b c d e)
    have hdrop : encs ((tabN (resid ws) k).drop i) = enc ((tabN (resid ws) k)[i]).2 :: encs ((tabN (resid ws) k).drop (i + 1)) := by
      rw [List.drop_eq_getElem_cons hi]; rfl
    rw [hdrop] at hq'
    obtain ⟨tp, vs'', rfl, hq''⟩ : ∃ tp vs'', vsP' = Value.str (enc ((tabN (resid ws) k)[i]).2) tp :: vs'' ∧ StrsAre vs'' (encs ((tabN (resid ws) k).drop (i + 1)) ++ encs (((((tabN (resid ws) k).take i).map (·.2)).flatMap (extN k)).foldl (stepN (resid ws)) [])) := by
      cases hq' with
      | cons y t hq' => exact ⟨_, _, rfl, hq'⟩
    have hokT := tabN_ok (resid ws) k
    have hpi := (hokT _ (List.getElem_mem hi)).2
    have hmem : ∀ x ∈ (((tabN (resid ws) k).take i).map (·.2)).flatMap (extN k), x ∈ pathsN (k + 1) := fun x hx => by
      obtain ⟨q, hq, hx⟩ := List.mem_flatMap.mp hx
      obtain ⟨e, he, rfl⟩ := List.mem_map.mp hq
      exact List.mem_flatMap.mpr ⟨e.2, (hokT e (List.mem_of_mem_take he)).2, hx⟩
    have hes := fold_ok (k := k + 1) (r := resid ws) _ [] (fun e he => by simp at he) hmem
    have hl1 := fold_len (r := resid ws) ((((tabN (resid ws) k).take i).map (·.2)).flatMap (extN k)) []
    rw [ext_len, List.length_map, List.length_take] at hl1
    have hl2 : (encs ((tabN (resid ws) k).drop (i + 1))).length ≤ 8 := by unfold encs; rw [List.length_map, List.length_drop]; omega
    have hmin : min i (tabN (resid ws) k).length ≤ 8 := by omega
    refine cut _ (turn_step (X := new ++ ((dx, hdrDict w.params hl th nh) :: (hxW, instObj 253 dx) :: X)) (p := ((tabN (resid ws) k)[i]).2) (k := k) B R hI hD hrow S8 hoc (List.mem_append_left _ (List.mem_append_right _ (.tail _ (.tail _ (.tail _ hocm))))) ((m83 _ (by decide) (by decide) (by decide) (by decide) (by decide)).trans ((mo3 _ (by decide)).trans mk)) ((m83 _ (by decide) (by decide) (by decide) (by decide) (by decide)).trans mw3) ((m83 _ (by decide) (by decide) (by decide) (by decide) (by decide)).trans ((mo3 _ (by decide)).trans ml))
      (fun x hx => List.mem_append_left _ (List.mem_append.mpr ((List.mem_append.mp hx).imp id fun hx => by
        rcases List.mem_cons.mp hx with rfl | hx
        · exact .tail _ (.head _)
        · rcases List.mem_cons.mp hx with rfl | hx
          · exact .tail _ (.tail _ (.head _))
          · exact .tail _ (.tail _ (.tail _ (hX _ hx)))))) T' hes hk hpi hq'' (by simp only [List.length_nil] at hl1; omega) (by omega)) ?_
    rintro f s₃ ⟨rfl, m', vs9, k9, rs9, kw9, new9, h9, t9, rfl, S9, T9, q9, r9, z9⟩
    have htk : (((tabN (resid ws) k).take (i + 1)).map (·.2)).flatMap (extN k) = ((((tabN (resid ws) k).take i).map (·.2)).flatMap (extN k)) ++ extN k ((tabN (resid ws) k)[i]).2 := by
      rw [List.take_add_one, List.getElem?_eq_getElem hi, List.map_append, List.flatMap_append]
      simp
    refine ⟨m', _, h9, t9, rfl, ⟨vs9, k9, rs9, kw9, new9 ++ new, rfl, fun z a b c d e => (z9 z a b c d).trans (m83 z a b c d e), ?_, ?_, by omega⟩, ?_⟩
    · rw [htk, List.foldl_append, List.append_assoc]; exact T9
    · rw [htk, List.foldl_append]; exact q9
    · refine S9.permP (List.Perm.trans List.perm_append_comm ?_)
      rw [List.append_assoc new9 new]
      show List.Perm (_ :: _ :: ((new9 ++ (new ++ _)) ++ own)) _
      rw [List.append_assoc new9]
      exact .refl _
  · rintro m₁ news₁ h t ⟨vsP', kP', rsW', kW', new, rfl, mz, T', hq', hr'⟩ S'
    dsimp only
    have hr0 : m₁ "rounds" = some (.ref D) := (mz _ (by decide) (by decide) (by decide) (by decide) (by decide)).trans ((mo3 _ (by decide)).trans mr)
    have hw0 : m₁ "wider" = some (.ref hxW) := (mz _ (by decide) (by decide) (by decide) (by decide) (by decide)).trans mw3
    have hl0 : m₁ "lexer" = m "lexer" := (mz _ (by decide) (by decide) (by decide) (by decide) (by decide)).trans (mo3 _ (by decide))
    refine wpAny_execs_cons ?_
    walk_at "m.step"
    walk_at "m.step"
    refine sLocal S' (fun h8 S8 => ?_) (by kernel_rfl) (by kernel_rfl)
    obtain ⟨m8, S8, mt8, mo8⟩ : ∃ m8, St g L m8 ((pl, listOf vsP'.toArray kP') :: (hl, listOf rsW'.toArray kW') :: (new ++ ((D, listOf rs.toArray kD) :: (dx, hdrDict w.params hl th nh) :: (hxW, instObj 253 dx) :: news))) h8 ∧ m8 "table" = some (.ref hxW) ∧ ∀ z : Str, z ≠ "table" → m8 z = m₁ z := ⟨_, S8, if_pos rfl, fun z hz => if_neg hz⟩
    have hr8 : m8 "rounds" = some (.ref D) := (mo8 _ (by decide)).trans hr0
    dsimp only
    refine wpAny_execs_cons (wpAny_Expr (eMeth ?_))
    walk_at "m.step"
    have S9 := S8.permP (List.perm_middle (l₁ := (pl, listOf vsP'.toArray kP') :: (hl, listOf rsW'.toArray kW') :: new) (a := (D, listOf rs.toArray kD)) (l₂ := (dx, hdrDict w.params hl th nh) :: (hxW, instObj 253 dx) :: news)).symm
    refine listMethod_K S9.N (.head _) PySem.F.slot_list_append PySem.F.type_list_append ?_
    refine callWith_val (by rfl) (by rfl) (fun a e => nomatch e) (args1 ?_)
    walk_at "m.step"
    refine kw0 ?_
    refine eAppend S9 (fun h10 S10 => ?_) (by simp [sizeLine]; omega)
    dsimp only
    refine wpAny_execs_nil ?_
    have e1 : tabN (resid ws) (k + 1) = (((tabN (resid ws) k).map (·.2)).flatMap (extN k)).foldl (stepN (resid ws)) [] := rfl
    rw [List.take_length, ← e1] at T' hq'
    refine hQ _ _ ⟨rfl, m8, vsP', kP', kD + 1, hxW, (hl, listOf rsW'.toArray kW') :: (new ++ [(dx, hdrDict w.params hl th nh), (hxW, instObj 253 dx)]), h10, _, rfl, ?_, ⟨hl, rsW', kW', T'.mono fun p hp => .tail _ ?_, .head _⟩, ?_, mt8, (mo8 _ (by decide)).trans hl0, hr8.trans mr.symm⟩
    · have e2 : rs.toArray.push (Value.ref hxW) = (rs ++ [Value.ref hxW]).toArray := by simp
      rw [e2] at S10
      refine S10.permP ?_
      show List.Perm (_ :: _ :: _ :: ((new ++ [_, _]) ++ news)) (_ :: _ :: _ :: (new ++ _ :: _ :: news))
      rw [List.append_assoc]
      exact .swap ..
    · show p ∈ (new ++ [_, _]) ++ X
      rw [List.append_assoc]
      exact hp
    · simpa [encs] using hq'
end
section
variable {w : World} {mg mb : Str → Option Value} {A : Around} {s : Shared} {h₀ : Heap}
theorem call_range_St {E : Value → Shared → Prop} {g : Heap} {L : Addr} {m : Str → Option Value} {news : List (Addr × Obj)} {n : Nat} {t : Tok} {Q : Value → Shared → Prop} (S : St g L m news s.heap)
    (h : ∀ r ta tb tc h' t', St g L m ((r, { cls := .type "range", data := .fields #[.int 0 ta, .int (n : Int) tb, .int 1 tc] }) :: news) h' → Q (.ref r) { s with heap := h', toks := t' }) :
    wpAny (model pw w) A (call (.type "range") [.int (n : Int) t]) Q E s := call_range_1 (h _ _ _ _ _ _ (S.push _))
theorem rounds_spec {xl dl xs pl lrow : Addr} {t1 t2 t3 t4 tw u : Tok} {ln n k kr : Nat} {vs : List Value} {ws : List Str} (B : Base w mg mb h₀) (hk : Sub h₀ s.heap) (R : Room A 8)
    (hI : s.heap.get? xl = some (instObj 103 dl)) (hD : s.heap.get? dl = some (lexD w.params t1 t2 t3 t4 (.int ln u) (.ref xs) tw pl n)) (hrow : s.heap.get? lrow = some (listOf vs.toArray kr)) (hrp : lrow ≠ pl)
    (O : Owns h₀ s.heap [(pl, listOf #[] k)]) (hv : StrsAre vs ws) (hw : ∀ x ∈ ws, Good x) (h9 : ws.length = 9) :
    codeAny (model pw w) A (.call (.ref 276) ⟨[.ref xl, .ref lrow], []⟩) (Post [(pl, listOf #[] k)] s fun v h' => ∃ (D : Addr) (rs : List Value) (kk : Nat) (fixed : List (Addr × Obj)), v = .ref D ∧ Fresh s.heap h' ((D, listOf rs.toArray kk) :: fixed) ∧ rs.length = 4 ∧
      ∀ i, i < 4 → ∃ hx, rs[i]? = some (Value.ref hx) ∧ TabIn w.params fixed hx (tabS (tabN (resid ws) (i + 1)))) s := by
  refine codeQ fun QQ hQ => ?_
  refine enterCells (st := stm 17) (f := 276) (binds := [("lexer", .ref xl), ("row", .ref lrow)]) (by rfl) (by kernel_rfl) (by kernel_rfl) B hk O (Room.mono R (by decide) : Room A 0).depth
    (BindsTo.of_eq (by rfl)) (fun n y hy => by
      rcases List.mem_cons.mp hy with rfl | hy
      · exact .inl (by kernel_rfl)
      · rcases List.mem_singleton.mp hy with rfl
        exact .inr ⟨by kernel_rfl, by rfl⟩) (by decide +kernel) ?_
  intro g L h₁ tk cells B' hz hg S hcells eL
  have ecl : cellsFrom (L + 1) (fScope (stm 17)).names [] = [(("row" : Str), L + 1)] := by rfl
  rw [ecl] at hcells
  obtain ⟨oc, rfl, hoc⟩ := hcells.one
  have R' : ∀ env, Room (A.deeper env) 7 := fun env => Room.deeper R
  rw [ecl]
  generalize hm : bindL _ _ _ = m at S
  have ml : m "lexer" = some (.ref xl) := by rw [← hm]; rfl
  clear hm
  have hoc : oc.data = .cell (some (.ref lrow)) := hoc
  have hpl := (O.at_ _ (.head _)).1
  have e1 : g.get? xl = some (instObj 103 dl) := hg _ _ (by simp; intro q; rw [q, hpl] at hI; cases hI) hI
  have e2 : g.get? dl = some (lexD w.params t1 t2 t3 t4 (.int ln u) (.ref xs) tw pl n) := hg _ _ (by simp; intro q; rw [q, hpl] at hD; exact nomatch congrArg Obj.data (Option.some.inj hD)) hD
  have e3 : g.get? lrow = some (listOf vs.toArray kr) := hg _ _ (by simpa using hrp) hrow
  refine wpAny_execs_cons ?_
  walk_at "m.step"
  refine eCall (eGlobal S B' (by rfl : nsIn (K w.params) mainGlobals "Headers" = some (some (.ref 253))) ?_ (by kernel_rfl) (by kernel_rfl))
  refine callWith_K0 (K := K w.params) (B'.X.keeps S.F.keep) (by kernel_rfl) ?_
  refine newHeaders S B' (Room.mono (R' _) (by decide)) fun hx dx hl th nh h2 tk2 S2 => ?_
  refine sLocal S2 (fun h3 S3 => ?_) (by kernel_rfl) (by kernel_rfl)
  dsimp only
  refine wpAny_execs_cons ?_
  refine wpAny_Expr (eMeth ?_)
  walk_at "m.step"
  refine method_inst S3.F B'.X (⟨(S3.N (hx, instObj 253 dx) (.tail _ (.tail _ (.head _)))).1, rfl, rfl, (S3.N (dx, hdrDict w.params hl th nh) (.tail _ (.head _))).1⟩) (by kernel_rfl) (by rfl : findIn (K w.params) (.ref 253) "add_header" = some (some (.ref 250))) (by kernel_rfl) (by rfl) ?_
  refine callWith_fn (by rfl) (by rfl) (args2 ?_)
  walk_at "m.step"
  walk_at "m.step"
  refine eCall (eBuiltin (v := .type "str") S3 B' (by rfl) (by kernel_rfl) (by decide) ?_ (by kernel_rfl) (by kernel_rfl))
  refine callWith_val (by rfl) (by rfl) (fun a e => nomatch e) (args1 ?_)
  refine eCall (eGlobal S3 B' (by rfl : nsIn (K w.params) mainGlobals "_law_left" = some (some (.ref 271))) ?_ (by kernel_rfl) (by kernel_rfl))
  refine callWith_fn (by rfl) (by rfl) (args1 ?_)
  walk_at "m.step"
  refine nCell (by rfl : (rEnv L).cells.lookup ("row" : Str) = some (L + 1)) (S3.N (L + 1, oc) (.tail _ (.tail _ (.tail _ (.head _))))).1 hoc ?_ (by rfl) (by kernel_rfl)
  walk_at "m.step"
  obtain ⟨t8, g8⟩ := strs_get hv 8 (by omega)
  refine item_litK (vs := vs) (k := 8) ⟨_, S3.F.keep _ _ e3, rfl, kr, rfl⟩ (by decide) (by decide) g8 ?_ (by with_unfolding_all rfl)
  refine kw0 ⟨⟨271, _, _, rfl, S3.F.keep _ _ (B'.X _ _ (by rfl : (K w.params).lookup 271 = some (ob271 w.params))), rfl⟩, ?_⟩
  refine call_post (left_good B' S3.F.keep (Room.mono (R' _) (by decide)) (hw _ (List.getElem_mem _))) ?_
  rintro v h5 t5 hz5 hk5 ⟨u5, rfl⟩
  have S5 := S3.keeps (fun b o e => hk5 b o (by simp) e)
  obtain ⟨q8, q8'⟩ := left_nat ws[8]
  rw [q8]
  refine kw0 (strD (by omega) ?_)
  obtain ⟨f1, f2, f3, f4, f5⟩ := name_facts _ q8'
  refine add_str (fun t6 tk6 => ?_) (by
    have : (nameS (left ws[8]).toNat).length = ("rest-" : Str).length + (encD (left ws[8]).toNat).length := Str.length_append _ _
    simp only [sizeLine]; omega)
  walk_at "m.step"
  refine kw0 ⟨⟨250, _, _, rfl, S5.F.keep _ _ (B'.X _ _ (by rfl : (K w.params).lookup 250 = some (ob250 w.params))), rfl⟩, ?_⟩
  have hrow : RowAt g lrow vs ws := ⟨⟨kr, e3⟩, hv, hw, h9⟩
  refine addTo (hx := hx) (hl := hl) (rs := []) (k := 0) (x := nameS (left ws[8]).toNat) (y := "8") (es := []) S5 B' (Room.mono (R' _) (by decide)) ⟨⟨dx, th, nh, .tail _ (.head _), .head _⟩, .nil⟩ (nam_of f1) (val_of (k := 0) (by decide) (.head _)) (by decide +kernel) (by decide) fun a k6 u6 h6 t6' S6 => ?_
  dsimp only
  have mlx : ∀ {m' : Str → Option Value}, True := fun {_} => trivial
  refine wpAny_execs_cons (wpAny_Expr (eMeth ?_))
  walk_at "m.step"
  refine method_inst S6.F B'.X (⟨S6.F.keep _ _ e1, rfl, rfl, S6.F.keep _ _ e2⟩) (by kernel_rfl) (by rfl : findIn (K w.params) (.ref 103) "push_token" = some (some (.ref 100))) (by kernel_rfl) (by rfl) ?_
  refine callWith_fn (by rfl) (by rfl) (args1 ?_)
  walk_at "m.step"
  refine kw0 ⟨⟨100, _, _, rfl, S6.F.keep _ _ (B'.X _ _ (by rfl : (K w.params).lookup 100 = some (ob100 w.params))), rfl⟩, ?_⟩
  have S6' := S6.permP (List.perm_middle (l₁ := [(hl, listOf ([] ++ [Value.ref a]).toArray k6), (a, tupOf [.str (nameS (left ws[8]).toNat) t6, .str "8" u6]), (dx, hdrDict w.params hl th nh), (hx, instObj 253 dx), (L + 1, oc)]) (a := (pl, listOf ([] : List Value).toArray k)) (l₂ := [])).symm
  refine pushTo S6' B' (Room.mono (R' _) (by decide)) (S6'.F.keep _ _ e1) (S6'.F.keep _ _ e2) (by decide) fun k7 h7 t7' S7 => ?_
  dsimp only
  refine wpAny_execs_cons ?_
  walk_at "m.step"
  refine List_ (args0 (eNewList S7 (fun D h8 _ S8 => ?_) (by decide)))
  refine sLocal S8 (fun h9' S9 => ?_) (by kernel_rfl) (by kernel_rfl)
  have hr8 : (resid ws).getD 8 0 = (left ws[8]).toNat := resid_get (by omega)
  have et0 : tabN (resid ws) 0 = [((left ws[8]).toNat, [8])] := by
    show [(restN (resid ws) [8], [8])] = _
    unfold restN
    rw [List.map_cons, List.map_nil, List.sum_cons, List.sum_nil, hr8, Nat.add_zero, Nat.mod_eq_of_lt q8']
  have es8 : enc [8] = "8" := by decide +kernel
  obtain ⟨m9, X0, t8k, S9, hX0, mt9, ml9, mr9⟩ : ∃ m9 X0 t8k, St g L m9 ((D, listOf ([] : List Value).toArray 0) :: (pl, listOf ([Value.str "8" t8k] : List Value).toArray k7) :: X0) h9' ∧ X0 = [(hl, listOf ([] ++ [Value.ref a]).toArray k6), (a, tupOf [.str (nameS (left ws[8]).toNat) t6, .str "8" u6]), (dx, hdrDict w.params hl th nh), (hx, instObj 253 dx), (L + 1, oc)] ∧ m9 "table" = some (.ref hx) ∧ m9 "lexer" = some (.ref xl) ∧ m9 "rounds" = some (.ref D) := ⟨_, _, _, S9, rfl, by walk_at "m.look", by walk_at "m.look", by walk_at "m.look"⟩
  dsimp only
  refine wpAny_execs_cons ?_
  refine eFor (eCall (eBuiltin (v := .type "range") S9 B' (by rfl) (by kernel_rfl) (by decide) ?_ (by kernel_rfl) (by kernel_rfl)))
  refine callWith_val (by rfl) (by rfl) (fun a e => nomatch e) (args1 ?_)
  walk_at "m.step"
  refine kw0 (call_range_St (n := 4) S9 fun r ta tb tc h10 t10 S10 => ?_)
  have T0 : TabIn w.params X0 hx (tabS (tabN (resid ws) 0)) := by
    rw [et0, hX0]
    refine ⟨hl, [Value.ref a], k6, ⟨⟨dx, th, nh, (.tail _ (.tail _ (.tail _ (.head _)))), (.tail _ (.tail _ (.head _)))⟩, ?_⟩, .head _⟩
    show RowsIn _ [Value.ref a] [(nameS (left ws[8]).toNat, enc [8])]
    rw [es8]
    exact .cons (t := t6) (u := u6) (.tail _ (.head _)) .nil
  have hc0 : (L + 1, oc) ∈ X0 := by rw [hX0]; exact (.tail _ (.tail _ (.tail _ (.tail _ (.head _)))))
  refine eForRange (env := rEnv L) (n := 4) (R' (rEnv L)).handled S10.tail.swap S10.getHead (by decide)
    (fun i m₁ news₁ => ∃ vsP' kP' rs kD hxT X, news₁ = (pl, listOf vsP'.toArray kP') :: (D, listOf rs.toArray kD) :: X ∧ (L + 1, oc) ∈ X ∧ TabIn w.params X hxT (tabS (tabN (resid ws) i)) ∧ StrsAre vsP' (encs (tabN (resid ws) i)) ∧ m₁ "table" = some (.ref hxT) ∧ m₁ "lexer" = some (.ref xl) ∧ m₁ "rounds" = some (.ref D) ∧
      rs.length = i ∧ ∀ j, j < i → ∃ hx', rs[j]? = some (Value.ref hx') ∧ TabIn w.params X hx' (tabS (tabN (resid ws) (j + 1))))
    ⟨_, k7, [], 0, hx, X0, rfl, hc0, T0, by rw [et0]; show StrsAre _ [enc [8]]; rw [es8]; exact .cons _ _ .nil, mt9, ml9, mr9, rfl, fun j hj => absurd hj (Nat.not_lt_zero _)⟩ ?_ ?_
  · rintro i t own m₁ news₁ h t' hi ⟨vsP', kP', rs, kD, hxT, X, rfl, hcX, TX, hq, mt, ml, mr, hlen, hall⟩ S'
    have S1 := S'.permP (List.perm_append_comm (l₁ := (pl, listOf vsP'.toArray kP') :: (D, listOf rs.toArray kD) :: X) (l₂ := own))
    refine aName (env := rEnv L) S1 (fun h8 S8 => ?_) (by rfl) (by kernel_rfl)
    obtain ⟨m8, S8, mk8, mo8⟩ : ∃ m8, St g L m8 ((pl, listOf vsP'.toArray kP') :: (D, listOf rs.toArray kD) :: (X ++ own)) h8 ∧ m8 "k" = some (.int (i : Nat) t) ∧ ∀ z : Str, z ≠ "k" → m8 z = m₁ z := ⟨_, S8, if_pos rfl, fun z hz => if_neg hz⟩
    refine cut _ (k_step (X := X) (k := i) B' (R' (rEnv L)) e1 e2 hrow S8 hoc (List.mem_append_left _ hcX) mk8 ((mo8 _ (by decide)).trans mt) ((mo8 _ (by decide)).trans ml) ((mo8 _ (by decide)).trans mr) (fun p hp => List.mem_append_left _ hp) TX hi hq (by omega)) ?_
    rintro f s₃ ⟨rfl, m', vs9, k9, kd9, hx9, new9, h9, t9, rfl, S9, T9, q9, mt9, ml9, mr9⟩
    refine ⟨m', _, h9, t9, rfl, ⟨vs9, k9, rs ++ [Value.ref hx9], kd9, hx9, new9 ++ X, rfl, List.mem_append_right _ hcX, T9, q9, mt9, ml9.trans ((mo8 _ (by decide)).trans ml), mr9.trans ((mo8 _ (by decide)).trans mr), by rw [List.length_append, hlen]; rfl, fun j hj => ?_⟩, ?_⟩
    · by_cases e : j = i
      · subst e
        exact ⟨hx9, by rw [List.getElem?_append_right (by omega), hlen]; simp, T9⟩
      · obtain ⟨hx', g1, g2⟩ := hall j (by omega)
        exact ⟨hx', by rw [List.getElem?_append_left (by omega)]; exact g1, g2.mono fun p hp => List.mem_append_right _ hp⟩
    · refine S9.permP (List.Perm.trans List.perm_append_comm ?_)
      show List.Perm (_ :: _ :: ((new9 ++ X) ++ own)) _
      rw [List.append_assoc]
  · rintro m₁ news₁ h t ⟨vsP', kP', rs, kD, hxT, X, rfl, hcX, TX, hq, mt, ml, mr, hlen, hall⟩ S'
    dsimp only
    refine wpAny_execs_cons (wpAny_Return_some ?_)
    walk_at "m.step"
    refine hQ _ _ (S'.post eL hg ⟨D, rs, kD, X, rfl, S'.fresh_of hg (fun p hp => .tail _ hp) (fun p hp => by simpa using S'.fresh p hp) (by have := S'.nd; rw [List.map_cons, List.nodup_cons] at this; exact this.2), hlen, hall⟩)
end
section
def lst0 : List Int := [1, 2, 2, 3, 7, 0, 4, 1011, 1013]
def numsOf' (script : List Int) : List Int := (script.take 9 ++ lst0.drop script.length).map (·.fmod 2000)
theorem nums_len (l : List Int) : (numsOf' l).length = 9 := by
  unfold numsOf' lst0
  simp only [List.length_map, List.length_append, List.length_take, List.length_drop, List.length_cons, List.length_nil]
  omega
def sN (i : Nat) : Stmt := (fBody (stm 18)).getD i (.Pass default)
abbrev lCl (L : Addr) : List (Str × Addr) := cellsFrom (L + 1) (fScope (stm 18)).names []
theorem lCl_eq (L : Addr) : lCl L = [(("k" : Str), L + 3), (("row" : Str), L + 2), (("numbers" : Str), L + 1)] := by rfl
abbrev lEnv (L : Addr) : Env := envX "law" (fScope (stm 18)) L 281 (.ref 280) [("k", L + 3), ("row", L + 2), ("numbers", L + 1)]
variable {w : World} {mg mb : Str → Option Value} {A : Around} {s : Shared} {h₀ : Heap}
theorem argC {E : Value → Shared → Prop} {env : Env} {pos : Pos} {e : Expr} {es : List Expr} {Q : List Value → Shared → Prop} (h : wpAny (model pw w) A (eval e env) (fun v s₁ => wpAny (model pw w) A (spliced (backTo pos (starEach es env))) (fun vs s₂ => Q (v :: vs) s₂) E s₁) E s)
    (he : starEach (e :: es) env = (false, eval e env) :: starEach es env := by rfl) : wpAny (model pw w) A (spliced (backTo pos (starEach (e :: es) env))) Q E s := by
  rw [he]; exact spliced_cons h
def intOf : Expr → Int
  | .Constant (.int k) _ _ => k
  | _ => 0
def isInt : Expr → Bool
  | .Constant (.int _) _ _ => true
  | _ => false
theorem argsInts {E : Value → Shared → Prop} {env : Env} {pos : Pos} : ∀ {es : List Expr} {s : Shared} {Q : List Value → Shared → Prop}, es.all isInt = true → (∀ vs tk, IntsAre vs (es.map intOf) → Q vs { s with toks := tk }) → wpAny (model pw w) A (spliced (backTo pos (starEach es env))) Q E s
  | [], s, Q, _, k => args0 (k [] s.toks .nil)
  | e :: es, s, Q, h, k => by
    rw [List.all_cons, Bool.and_eq_true] at h
    obtain ⟨h1, h2⟩ := h
    unfold isInt at h1
    split at h1
    · refine argC (wpAny_Constant_int ?_)
      refine argsInts h2 fun vs tk hv => ?_
      exact k _ _ (.cons _ _ hv)
    · cases h1
theorem ints_get {vs : List Value} {ns : List Int} (S : IntsAre vs ns) : ∀ (i : Nat) (v : Value), vs[i]? = some v → ∃ x u, ns[i]? = some x ∧ v = .int x u := by
  induction S with
  | nil => intro i v h; simp at h
  | cons y t S ih =>
    intro i v h
    cases i with
    | zero =>
      have e : Value.int y t = v := by simpa using h
      exact ⟨y, t, rfl, e.symm⟩
    | succ i => exact ih i v (by simpa using h)
theorem seg_numbers {g : Heap} {L ls : Addr} {m : Str → Option Value} {news : List (Addr × Obj)} {oN : Obj} {ss : List Value} {script : List Int} (B : Base w mg mb g) (R : Room A 6) (S : St g L m ((L + 1, oN) :: news) s.heap) (ho : oN.data = .cell none)
    (ms : m "script" = some (.ref ls)) (hl : g.IsList ls ss.toArray) (hi : IntsAre ss script) (hlen : script.length ≤ 63) :
    wpAny (model pw w) A (exec (sN 0) (lEnv L)) (fun f s' => f = .next ∧ ∃ oN' D vs k h' t', s' = { s with heap := h', toks := t' } ∧ St g L m ((L + 1, oN') :: (D, listOf vs.toArray k) :: news) h' ∧ oN'.data = .cell (some (.ref D)) ∧ IntsAre vs (numsOf' script)) Bot s := by
  refine wpQ fun QQ hQ => ?_
  obtain ⟨oL, hl, hcl, kl, hdl⟩ := hl
  have hil := hi.length
  show wpAny _ _ (exec (.Assign [.Name _ _] _ _) _) _ _ _
  walk_at "m.step"
  refine eListComp (L := L) (m := m) (cl := []) B (by rfl) (by decide +kernel) (by rfl) (by decide +kernel) ?_
  walk_at "m.step"
  refine Subscript_ ?_
  walk_at "m.step"
  refine wpAny_Slice ?_
  refine evalPart_none_step (evalPart_some_step ?_)
  walk_at "m.step"
  refine evalPart_none_step ?_
  refine kmk_slice S.F S.N (its := ss.toArray) ⟨_, S.F.keep _ _ hl, hcl, kl, hdl⟩ .none (.int 9 _) (fun D1 h1 F1 N1 lt1 => ?_) (by with_unfolding_all rfl) (fun r => rfl) (by rw [List.size_toArray]; simp only [sizeLine]; omega)
  have S1 : St g L m ((D1, listOf (slicePick ss.toArray none (some 9) none) 0) :: (L + 1, oN) :: news) h1 := ⟨F1, N1, by
    rw [List.map_cons, List.nodup_cons]
    refine ⟨fun q => ?_, S.nd⟩
    obtain ⟨p, hp, e⟩ := List.mem_map.mp q
    exact absurd (show p.1 = D1 from e) (Nat.ne_of_lt (lt1 p hp))⟩
  have i1 := kmk_upto (y := 9) hi (by decide)
  refine Subscript_ ?_
  refine List_ ?_
  refine argsInts (by rfl) fun cs tkc hcs => ?_
  have hcs : IntsAre cs lst0 := hcs
  refine eNewList S1 (fun D2 h2 _ S2 => ?_) (by rw [hcs.length]; decide)
  refine wpAny_Slice ?_
  refine evalPart_some_step ?_
  refine eCall (eBuiltin (v := .builtin "len") S2 B (by rfl) (by kernel_rfl) (by decide) ?_ (by kernel_rfl) (by kernel_rfl))
  refine callWith_val (by rfl) (by rfl) (fun a e => nomatch e) (args1 ?_)
  walk_at "m.step"
  refine kw0 (call_len_list (items := ss.toArray) ⟨_, S2.F.keep _ _ hl, hcl, kl, hdl⟩ (by rw [List.size_toArray]; omega) ?_)
  refine evalPart_none_step (evalPart_none_step ?_)
  refine kba_turn (value' := .Name "script" default) (fun r => rfl) ?_
  refine kmk_slice S2.F S2.N (its := cs.toArray) ⟨_, S2.getHead, rfl, 0, rfl⟩ (.int _ _) .none (fun D3 h3 F3 N3 lt3 => ?_) (by with_unfolding_all rfl) (fun r => rfl) (by rw [List.size_toArray, hcs.length]; decide)
  have S3 : St g L m ((D3, listOf (slicePick cs.toArray (some (ss.toArray.size : Int)) none none) 0) :: (D2, listOf cs.toArray 0) :: (D1, listOf (slicePick ss.toArray none (some 9) none) 0) :: (L + 1, oN) :: news) h3 := ⟨F3, N3, by
    rw [List.map_cons, List.nodup_cons]
    refine ⟨fun q => ?_, S2.nd⟩
    obtain ⟨p, hp, e⟩ := List.mem_map.mp q
    exact absurd (show p.1 = D3 from e) (Nat.ne_of_lt (lt3 p hp))⟩
  have i2 := kmk_from (x := (ss.toArray.size : Int)) hcs (by omega)
  refine add_lists_ints S3.F S3.N (vs := (slicePick ss.toArray none (some 9) none).toList) (ws := (slicePick cs.toArray (some (ss.toArray.size : Int)) none none).toList) ⟨_, (S3.N _ (.tail _ (.tail _ (.head _)))).1, rfl, 0, by simp⟩ ⟨_, S3.getHead, rfl, 0, by simp⟩ i1 i2 (fun h4 F4 N4 i4 => ?_) (by rw [List.length_take, List.length_drop]; simp only [sizeLine, lst0, List.length_cons, List.length_nil]; omega)
  have e4 : (script.take (9 : Int).toNat ++ lst0.drop (ss.toArray.size : Int).toNat) = script.take 9 ++ lst0.drop script.length := by
    rw [List.size_toArray, hil]; rfl
  rw [e4] at i4
  generalize hD4 : h3.objs.size = D4 at N4 ⊢
  generalize hvs : (slicePick ss.toArray none (some 9) none).toList ++ (slicePick cs.toArray (some (ss.toArray.size : Int)) none none).toList = vs4 at N4 i4
  have S4 : St g L m [(L + 1, oN)] h4 → True := fun _ => trivial
  have S5 : St g L m ((D4, listOf vs4.toArray 0) :: (L + 1, oN) :: news) h4 := by
    have S3' := S3.permP (List.Perm.refl _)
    refine ⟨F4, fun p hp => ?_, ?_⟩
    · rcases List.mem_cons.mp hp with rfl | hp
      · exact N4 _ (.head _)
      · exact N4 p (.tail _ (.tail _ (.tail _ (.tail _ hp))))
    · rw [List.map_cons, List.nodup_cons]
      refine ⟨fun q => ?_, S.nd⟩
      obtain ⟨p, hp, e⟩ := List.mem_map.mp q
      have z := Heap.lt_size (S3.N p (.tail _ (.tail _ (.tail _ hp)))).1
      rw [hD4] at z
      exact absurd (show p.1 = D4 from e) (Nat.ne_of_lt z)
  have hnl : (script.take 9 ++ lst0.drop script.length).length = 9 := by
    have := nums_len script
    unfold numsOf' at this
    rwa [List.length_map] at this
  refine cut _ (iter_list (items := vs4.toArray) R.handled S5 ⟨_, S5.getHead, rfl, 0, rfl⟩ fun it v i s₁ P E hI hP => wpAny_pure hP) fun it s₂ F => ⟨_, _, _, _, (fun i ys => IntsAre ys.toList ((numsOf' script).take i)), F, ?_, ?_, ?_, ?_⟩
  · rw [List.size_toArray, i4.length, hnl]; decide
  · exact .nil
  · intro g' C D i v own m₁ ys k h t B' hg' hi' hP hJ S'
    obtain ⟨x, u, hx, rfl⟩ := ints_get i4 i v (by simpa using hP)
    refine aName (env := compEnvC _ _ C (lEnv L)) S' (fun h8 S8 => ?_) (by rfl) (by kernel_rfl)
    refine wpAny_tests_nil ?_
    rw [if_pos rfl]
    walk_at "m.step"
    refine nLocal S8 (by walk_at "m.look") ?_ (by rfl) (by kernel_rfl)
    walk_at "m.step"
    refine mod_int' (by decide) ?_
    refine ⟨_, h8, _, rfl, S8, ?_⟩
    show IntsAre _ _
    rw [Array.toList_push, List.take_add_one]
    have e5 : (numsOf' script)[i]? = some (x.fmod 2000) := by unfold numsOf'; rw [List.getElem?_map, hx]; rfl
    rw [e5]
    exact ints_append hJ (.cons _ _ .nil)
  · intro D ys k h t S' hJ
    have hJ : IntsAre _ _ := hJ
    rw [List.take_of_length_le (by rw [nums_len, List.size_toArray, i4.length, hnl]; exact Nat.le_refl _)] at hJ
    have S6 := S'.permP (List.perm_middle (l₁ := [(D, listOf ys k), (D4, listOf vs4.toArray 0)]) (a := (L + 1, oN)) (l₂ := news)).symm
    refine storeX_C S6.F S6.N (by rfl) (.head S6.fresh) ho (fun h9 oN' F9 N9 ho' => ?_) (by kernel_rfl) (by kernel_rfl)
    have S7 : St g L m ((L + 1, oN') :: [(D, listOf ys k), (D4, listOf vs4.toArray 0)] ++ news) h9 := ⟨F9, N9, S6.nd⟩
    refine hQ _ _ ⟨rfl, oN', D, ys.toList, k, h9, _, rfl, ?_, ho', hJ⟩
    rw [Array.toArray_toList]
    have nd := S7.nd
    refine S7.perm (fun p hp => ?_) ?_
    · rcases List.mem_cons.mp hp with rfl | hp
      · exact .head _
      · rcases List.mem_cons.mp hp with rfl | hp
        · exact .tail _ (.head _)
        · exact .tail _ (.tail _ (.tail _ hp))
    · simp only [List.cons_append, List.nil_append, List.map_cons, List.nodup_cons, List.mem_cons, not_or] at nd ⊢
      exact ⟨⟨nd.1.1, nd.1.2.2⟩, nd.2.1.2, nd.2.2.2⟩
end
section
variable {w : World} {mg mb : Str → Option Value} {A : Around} {s : Shared} {h₀ : Heap}
def wordOf (v : Int) : Str := Str.ofString (toString (v.fmod 1000))
theorem seg_words {g : Heap} {L D : Addr} {m : Str → Option Value} {news : List (Addr × Obj)} {oN : Obj} {vs : List Value} {ns : List Int} {kD : Nat} (B : Base w mg mb g) (R : Room A 6) (S : St g L m ((L + 1, oN) :: (D, listOf vs.toArray kD) :: news) s.heap) (ho : oN.data = .cell (some (.ref D)))
    (hi : IntsAre vs ns) (hn : ns.length = 9) :
    wpAny (model pw w) A (exec (sN 1) (lEnv L)) (fun f s' => f = .next ∧ ∃ DW us k h' t', s' = { s with heap := h', toks := t' } ∧ St g L (fun z => if z = "words" then some (.ref DW) else m z) ((DW, listOf us.toArray k) :: (L + 1, oN) :: (D, listOf vs.toArray kD) :: news) h' ∧ StrsAre us (ns.map wordOf)) Bot s := by
  refine aListComp (L := L) (m := m) (cl := []) B rfl (by rfl) (by rfl) (by decide +kernel) (by rfl) (by decide +kernel) (by kernel_rfl) (by rfl) ?_
  refine nCell (by rfl : (lEnv L).cells.lookup ("numbers" : Str) = some (L + 1)) S.getHead ho ?_ (by rfl) (by kernel_rfl)
  refine cut _ (iter_list (items := vs.toArray) R.handled S ⟨_, (S.N _ (.tail _ (.head _))).1, rfl, kD, rfl⟩ fun it v i s₁ P E hI hP => wpAny_pure hP) fun it s₂ F => ⟨_, _, _, _, (fun i ys => StrsAre ys.toList ((ns.map wordOf).take i)), F, ?_, ?_, ?_, ?_⟩
  · rw [List.size_toArray, hi.length, hn]; decide
  · exact .nil
  · intro g' C D i v own m₁ ys k h t B' hg' hi' hP hJ S'
    obtain ⟨x, u, hx, rfl⟩ := ints_get hi i v (by simpa using hP)
    refine aName (env := compEnvC _ _ C (lEnv L)) S' (fun h8 S8 => ?_) (by rfl) (by kernel_rfl)
    refine wpAny_tests_nil ?_
    rw [if_pos rfl]
    refine eCall (nBuiltin (v := .type "str") S8 B' (by rfl) (by kernel_rfl) (by decide) ?_ (by rfl) (by rfl) (by rfl) (by kernel_rfl))
    refine callWith_val (by rfl) (by rfl) (fun a e => nomatch e) (args1 ?_)
    walk_at "m.step"
    refine nLocal S8 (by walk_at "m.look") ?_ (by rfl) (by kernel_rfl)
    walk_at "m.step"
    refine mod_int' (by decide) ?_
    have h0 := Int.fmod_nonneg_of_pos x (show (0 : Int) < 1000 by decide)
    have h1 := Int.fmod_lt_of_pos x (show (0 : Int) < 1000 by decide)
    refine kw0 (str_of_int_fit (N := 4611686018427387904) (by rw [if_neg (by omega)]; omega) (by decide) fun _ => ?_)
    refine ⟨_, h8, _, rfl, S8, ?_⟩
    show StrsAre _ _
    rw [Array.toList_push, List.take_add_one, List.getElem?_map, hx]
    exact strs_append hJ (.cons _ _ .nil)
  · intro DW ys k h t S' hJ
    have hJ : StrsAre _ _ := hJ
    rw [List.take_of_length_le (by rw [List.length_map, List.size_toArray, hi.length]; exact Nat.le_refl _)] at hJ
    exact ⟨rfl, DW, ys.toList, k, h, _, rfl, by rw [Array.toArray_toList]; exact S', hJ⟩
end
section
variable {w : World} {mg mb : Str → Option Value} {A : Around} {E : Value → Shared → Prop} {s : Shared} {g₀ : Heap} {L : Addr} {m : Str → Option Value} {news : List (Addr × Obj)}
theorem KTurns.widen {target : Expr} {I : Addr} {fp wr wr' : List Addr} {n : Nat} {P Md : Nat → Value → Heap → Prop} {Sx : Nat → Heap → Prop} (W : KTurns pw w A target I fp wr n P Md Sx) (h1 : ∀ b ∈ wr, b ∈ wr') (h2 : ∀ b ∈ wr', b ∈ fp) :
    KTurns pw w A target I fp wr' n P Md Sx where
  sub := h2
  frame := W.frame
  item := fun i s Q E hi st hQ => W.item i s Q E hi st fun v h' tk hm hk => hQ v h' tk hm fun b o nb e => hk b o (fun q => nb (h1 b q)) e
  go := fun i v s Q E hm hQ => W.go i v s Q E hm fun h' hp st hk => hQ h' hp st fun b o nb e => hk b o (fun q => nb (h1 b q)) e
  done := fun s Q E st hQ => W.done s Q E st fun h' tk hk => hQ h' tk fun b o nb e => hk b o (fun q => nb (h1 b q)) e
theorem zip_apart {z a b : Nat} (h1 : a < z) (h2 : b < z) : ZipApart (z + 4) (z + 2) (z + 3) z (z + 1) a b := by
  constructor <;> (show @Ne Nat _ _; omega)
theorem five_nodup {z : Nat} : [z + 4, z + 2, z + 3, z, z + 1].Nodup := by simp
theorem five_ge {z b : Nat} (h : b ∈ [z + 4, z + 2, z + 3, z, z + 1]) : z ≤ b := by
  simp only [List.mem_cons, List.not_mem_nil, or_false] at h
  omega
theorem zip_fed {l1 l2 : Addr} {xs ys : Array Value} {elts : List Expr} {tk : Nat} {tp : Pos} (hh : A.handled = none) (S : St g₀ L m news s.heap) (hl1 : s.heap.IsList l1 xs) (hl2 : s.heap.IsList l2 ys) :
    wpAny (model pw w) A (call (.type "zip") [.ref l1, .ref l2]) (fun x s₁ => wpAny (model pw w) A (pyIter x) (Fed w A (.Tuple elts tk tp) (min xs.size ys.size) (fun i v h => ∃ T vals, v = .ref T ∧ (∃ x y, xs[i]? = some x ∧ ys[i]? = some y ∧ vals = #[x, y]) ∧ h.IsTuple T vals) g₀ L m news s) Bot s₁) E s := by
  obtain ⟨o1, ho1, r1⟩ := id hl1
  obtain ⟨o2, ho2, r2⟩ := id hl2
  have a1 := Heap.lt_size ho1
  have a2 := Heap.lt_size ho2
  refine call_zip_2 hl1 hl2 fun h' hz hTI hTO i1 i2 hsz hk => wpAny_pyIter_zip hz ?_
  have D : ZipApart (s.heap.objs.size + 4) (s.heap.objs.size + 2) (s.heap.objs.size + 3) s.heap.objs.size (s.heap.objs.size + 1) l1 l2 := zip_apart a1 a2
  refine ⟨_, _, [s.heap.objs.size + 4, s.heap.objs.size + 2, s.heap.objs.size + 3, s.heap.objs.size, s.heap.objs.size + 1], _, _, h', s.toks, rfl, rfl, ⟨Mine.KTurns.widen (KTurns.ofWalksU (prog := pw) (w := w) (WalksT.zip2 hh _ _ _ _ _ l1 l2 D xs ys).toU) (by simp) (by simp), ?_, ?_⟩, ⟨hz, hTI, ⟨_, _, hTO⟩, i1, i2, ⟨o1, hk _ _ ho1, r1⟩, ⟨o2, hk _ _ ho2, r2⟩⟩, ?_, hk, ?_, ?_⟩
  · exact fun i s Q E hx hq => (WalksT.zip2 hh _ _ _ _ _ l1 l2 D xs ys).toU.self i s Q E hx hq
  · rintro i h ⟨q1, q2, ⟨a, b, q3⟩, ⟨oa, q4, _⟩, ⟨ob, q5, _⟩, _⟩ b' hb
    simp only [List.mem_cons, List.not_mem_nil, or_false] at hb
    rcases hb with rfl | rfl | rfl | rfl | rfl
    · exact ⟨_, q1⟩
    · exact ⟨_, q2⟩
    · exact ⟨_, q3⟩
    · exact ⟨_, q4⟩
    · exact ⟨_, q5⟩
  · have ex : ∀ b ∈ [s.heap.objs.size + 4, s.heap.objs.size + 2, s.heap.objs.size + 3, s.heap.objs.size, s.heap.objs.size + 1], ∃ o, h'.get? b = some o := by
      obtain ⟨oa, q4, _⟩ := i1
      obtain ⟨ob, q5, _⟩ := i2
      intro b hb
      simp only [List.mem_cons, List.not_mem_nil, or_false] at hb
      rcases hb with rfl | rfl | rfl | rfl | rfl
      · exact ⟨_, hz⟩
      · exact ⟨_, hTI⟩
      · exact ⟨_, hTO⟩
      · exact ⟨_, q4⟩
      · exact ⟨_, q5⟩
    refine S.madeAll (S.keeps hk) rfl ⟨fun p hp => ⟨ownOf_at ex p hp, ?_⟩, by rw [ownOf_map]; exact five_nodup⟩
    have hm := (ownOf_mem hp).1
    exact Heap.get?_none_of_le (five_ge hm)
  · exact fun b hb => Heap.get?_none_of_le (five_ge hb)
  · intro b hb nb
    simp only [List.mem_cons, List.not_mem_nil, or_false, not_or] at hb nb
    rcases hb with h | h | h | h | h | rfl | rfl
    · exact absurd h nb.1
    · exact absurd h nb.2.1
    · exact absurd h nb.2.2.1
    · exact absurd h nb.2.2.2.1
    · exact absurd h nb.2.2.2.2
    · exact ⟨_, ho1⟩
    · exact ⟨_, ho2⟩
end
section
variable {w : World} {mg mb : Str → Option Value} {A : Around} {s : Shared} {h₀ : Heap}
def slashed (x : Str) : List Str := (signs x).map fun d => "\\" ++ d
def writOf (v : Int) : Str := if v > 999 then ("\"" ++ wordOf v) ++ "\"" else Txt.join "" (slashed (wordOf v))
theorem word_len {v : Int} : (wordOf v).length ≤ 3 := by
  have h0 := Int.fmod_nonneg_of_pos v (show (0 : Int) < 1000 by decide)
  have h1 := Int.fmod_lt_of_pos v (show (0 : Int) < 1000 by decide)
  obtain ⟨n, hn⟩ := Int.eq_ofNat_of_zero_le h0
  have hn' : n < 1000 := by omega
  unfold wordOf
  rw [hn]
  have key : ∀ n, n < 1000 → (Str.ofString (toString (Int.ofNat n))).length ≤ 3 := by decide +kernel
  exact key n hn'
theorem slashed_weight (x : Str) : ((slashed x).map (·.length)).sum + (slashed x).length = 3 * x.length := by
  have e : (slashed x).map (·.length) = x.cps.toList.map fun _ => 2 := by
    unfold slashed signs
    rw [List.map_map, List.map_map]
    refine List.map_congr_left fun c _ => ?_
    show ("\\" ++ (⟨#[c]⟩ : Str)).length = 2
    rw [Str.length_append]; rfl
  have e2 : (slashed x).length = x.length := by unfold slashed signs; rw [List.length_map, List.length_map]; exact Array.length_toList
  rw [e, e2]
  have : ∀ l : List Nat, (l.map fun _ => 2).sum = 2 * l.length := fun l => by induction l with
    | nil => rfl
    | cons a r ih => rw [List.map_cons, List.sum_cons, ih, List.length_cons]; omega
  rw [this]
  have : x.cps.toList.length = x.length := Array.length_toList
  omega
theorem len_quote : ("\"" : Str).length = 1 := by decide +kernel
theorem seg_written {g : Heap} {L D DW : Addr} {m : Str → Option Value} {news : List (Addr × Obj)} {oN : Obj} {us vs : List Value} {ns : List Int} {kD kW : Nat} (B : Base w mg mb g) (R : Room A 6) (S : St g L m ((DW, listOf us.toArray kW) :: (L + 1, oN) :: (D, listOf vs.toArray kD) :: news) s.heap) (ho : oN.data = .cell (some (.ref D)))
    (mw : m "words" = some (.ref DW)) (hi : IntsAre vs ns) (hu : StrsAre us (ns.map wordOf)) (hn : ns.length = 9) :
    wpAny (model pw w) A (exec (sN 2) (lEnv L)) (fun f s' => f = .next ∧ ∃ DX xs k h' t', s' = { s with heap := h', toks := t' } ∧ St g L (fun z => if z = "written" then some (.ref DX) else m z) ((DX, listOf xs.toArray k) :: (DW, listOf us.toArray kW) :: (L + 1, oN) :: (D, listOf vs.toArray kD) :: news) h' ∧ StrsAre xs (ns.map writOf)) Bot s := by
  refine wpQ fun QQ hQ => ?_
  refine aListComp (L := L) (m := m) (cl := []) B rfl (by rfl) (by rfl) (by decide +kernel) (by rfl) (by decide +kernel) (by kernel_rfl) (by rfl) ?_
  refine eCall (eBuiltin (v := .type "zip") S B (by rfl) (by kernel_rfl) (by decide) ?_ (by kernel_rfl) (by kernel_rfl))
  refine callWith_val (by rfl) (by rfl) (fun a e => nomatch e) (args2 ?_)
  walk_at "m.step"
  refine nCell (by rfl : (lEnv L).cells.lookup ("numbers" : Str) = some (L + 1)) (S.N (L + 1, oN) (.tail _ (.head _))).1 ho ?_ (by rfl) (by kernel_rfl)
  refine kw0 ?_
  have hul := strs_len hu
  have hvl := hi.length
  refine cut _ (zip_fed R.handled S (xs := us.toArray) (ys := vs.toArray) ⟨_, (S.N _ (.head _)).1, rfl, kW, rfl⟩ ⟨_, (S.N _ (.tail _ (.tail _ (.head _)))).1, rfl, kD, rfl⟩) fun x s₁ h₁ => cut _ h₁ fun it s₂ F => ⟨_, _, _, _, (fun i ys => StrsAre ys.toList ((ns.map writOf).take i)), F, ?_, ?_, ?_, ?_⟩
  · rw [List.size_toArray, List.size_toArray, hvl, hn]; omega
  · exact .nil
  · rintro g' C D' i v own m₁ ys k h t B' hg' hi' ⟨T, vals, rfl, ⟨xw, yv, hxw, hyv, rfl⟩, hT⟩ hJ S'
    obtain ⟨x, u, hx, rfl⟩ := ints_get hi i yv (by simpa using hyv)
    have hin : i < (ns.map wordOf).length := by
      rw [List.length_map]
      exact (List.getElem?_eq_some_iff.mp hx).1
    obtain ⟨tw, hw⟩ := strs_get hu i hin
    have e1 : xw = .str (wordOf x) tw := by
      have : us[i]? = some xw := by simpa using hxw
      rw [hw] at this
      have e := Option.some.inj this
      rw [← e, List.getElem_map]
      have := (List.getElem?_eq_some_iff.mp hx).2
      rw [this]
    subst e1
    refine aPair' (env := compEnvC _ _ C (lEnv L)) R.handled S' hT (fun h8 S8 => ?_) (by rfl) (by kernel_rfl) (by kernel_rfl)
    obtain ⟨m8, S8, mw8, mv8⟩ : ∃ m8, St g' C m8 ((D', listOf ys k) :: own) h8 ∧ m8 "word" = some (.str (wordOf x) tw) ∧ m8 "v" = some (.int x u) := ⟨_, S8, by walk_at "m.look", by walk_at "m.look"⟩
    refine wpAny_tests_nil ?_
    rw [if_pos rfl]
    have fin : ∀ h9 t9 u9 m9, St g' C m9 ((D', listOf ys k) :: own) h9 → (∃ m₂ h' t', ({ s with heap := h9, toks := t9 } : Shared) = { s with heap := h', toks := t' } ∧ St g' C m₂ ((D', listOf ys k) :: own) h' ∧ StrsAre (ys.push (.str (writOf x) u9)).toList ((ns.map writOf).take (i + 1))) := by
      intro h9 t9 u9 m9 S9
      refine ⟨m9, h9, t9, rfl, S9, ?_⟩
      rw [Array.toList_push, List.take_add_one, List.getElem?_map, hx]
      exact strs_append hJ (.cons _ _ .nil)
    have hwl := word_len (v := x)
    refine wpAny_IfExp ?_
    walk_at "m.step"
    refine nLocal S8 (by walk_at "m.look") ?_ (by rfl) (by kernel_rfl)
    walk_at "m.step"
    refine gt_int ?_
    walk_at "m.step"
    by_cases hc : x > 999
    · rw [if_pos (by simpa using hc)]
      walk_at "m.step"
      walk_at "m.step"
      walk_at "m.step"
      refine nLocal S8 (by walk_at "m.look") ?_ (by rfl) (by kernel_rfl)
      refine add_str (fun t1 tk1 => ?_) (by rw [len_quote]; simp only [sizeLine]; omega)
      walk_at "m.step"
      refine add_str (fun t2 tk2 => ?_) (by rw [Str.length_append, len_quote]; simp only [sizeLine]; omega)
      have e : ("\"" ++ wordOf x) ++ "\"" = writOf x := by unfold writOf; rw [if_pos hc]
      rw [e]
      exact fin _ _ _ _ S8
    · rw [if_neg (by simpa using hc)]
      refine eMeth ?_
      walk_at "m.step"
      refine GM.join ?_
      refine callWith_val (by rfl) (by rfl) (fun a e => nomatch e) (args1 ?_)
      refine eListComp (L := C) (m := m8) (cl := []) B' (by rfl) (by decide +kernel) (by rfl) (by decide +kernel) ?_
      refine nLocal S8 (by walk_at "m.look") ?_ (by rfl) (by kernel_rfl)
      refine cut _ (iter_str R.handled S8) fun it2 s₃ F2 => ⟨_, _, _, _, (fun i zs => StrsAre zs.toList ((slashed (wordOf x)).take i)), F2, ?_, ?_, ?_, ?_⟩
      · have : (wordOf x).cps.size = (wordOf x).length := rfl
        omega
      · exact .nil
      · intro g2 C2 D2 j v2 own2 m2 zs k2 h2 t2 B2 hg2 hj hP2 hJ2 S2
        obtain ⟨c, u2, hc, rfl⟩ := hP2
        refine aName (env := compEnvC _ _ C2 (compEnvC _ _ C (lEnv L))) S2 (fun h3 S3 => ?_) (by rfl) (by kernel_rfl)
        refine wpAny_tests_nil ?_
        rw [if_pos rfl]
        walk_at "m.step"
        walk_at "m.step"
        refine nLocal S3 (by walk_at "m.look") ?_ (by rfl) (by kernel_rfl)
        refine add_str (fun t1 tk1 => ?_) (by show 2 ≤ _; simp only [sizeLine]; decide)
        refine ⟨_, h3, _, rfl, S3, ?_⟩
        show StrsAre _ _
        have e : (slashed (wordOf x))[j]? = some ("\\" ++ (⟨#[c]⟩ : Str)) := by
          unfold slashed signs
          rw [List.getElem?_map, List.getElem?_map, Array.getElem?_toList, hc]; rfl
        rw [Array.toList_push, List.take_add_one, e]
        exact strs_append hJ2 (.cons _ _ .nil)
      · intro DI zs kz h3 t3 S3 hJ3
        have hJ3 : StrsAre _ _ := hJ3
        have esl : (slashed (wordOf x)).length = (wordOf x).cps.size := by
          unfold slashed signs
          rw [List.length_map, List.length_map, Array.length_toList]
        rw [List.take_of_length_le (Nat.le_of_eq esl)] at hJ3
        have hwt := slashed_weight (wordOf x)
        refine kw0 (join_listW (items := zs) (ys := slashed (wordOf x)) ⟨_, S3.getHead, rfl, kz, rfl⟩ hJ3 (by decide) (by omega) fun t4 k4 => ?_)
        have e : Txt.join "" (slashed (wordOf x)) = writOf x := by unfold writOf; rw [if_neg hc]
        have e2 : Txt.join (Str.ofString "") (slashed (wordOf x)) = writOf x := e
        rw [e2]
        exact fin _ _ _ _ S3.tail
  · intro DX ys k h t S' hJ
    have hJ : StrsAre _ _ := hJ
    rw [List.take_of_length_le (by rw [List.length_map, List.size_toArray, List.size_toArray, hvl, hul, List.length_map]; omega)] at hJ
    exact hQ _ _ ⟨rfl, DX, ys.toList, k, h, _, rfl, by rw [Array.toArray_toList]; exact S', hJ⟩
end
section
/-! what the lexer is given to read -/
theorem signs_append (x y : Str) : signs (x ++ y) = signs x ++ signs y := by
  unfold signs
  rw [← List.map_append]
  congr 1
  show (x.cps ++ y.cps).toList = _
  exact Array.toList_append
def wr (v : Int) : List Str := wrote (decide (v > 999)) (signs (wordOf v))
def feed : List Int → List Str
  | [] => []
  | [v] => wr v
  | v :: u :: r => wr v ++ ("\n" : Str) :: feed (u :: r)
theorem signs_one (c : Nat) : signs ⟨#[c]⟩ = [⟨#[c]⟩] := rfl
theorem signs_glue : ∀ l : List Nat, signs (Str.join "" ((l.map fun n => (⟨#[n]⟩ : Str)).map fun d => "\\" ++ d)) = (l.map fun n => (⟨#[n]⟩ : Str)).flatMap fun d => [("\\" : Str), d]
  | [] => rfl
  | [c] => by
    show signs ("\\" ++ (⟨#[c]⟩ : Str)) = _
    rw [signs_append]; rfl
  | c :: d :: r => by
    have ih := signs_glue (d :: r)
    show signs (("\\" ++ (⟨#[c]⟩ : Str)) ++ "" ++ Str.join "" (((d :: r).map fun n => (⟨#[n]⟩ : Str)).map fun d => "\\" ++ d)) = _
    rw [signs_append, signs_append, signs_append, ih]; rfl
theorem signs_writ (v : Int) : signs (writOf v) = wr v := by
  unfold writOf wr
  by_cases h : v > 999
  · rw [if_pos h, decide_eq_true h]
    show _ = ("\"" : Str) :: (signs (wordOf v) ++ [("\"" : Str)])
    rw [signs_append, signs_append]; rfl
  · rw [if_neg h, decide_eq_false h]
    show signs (Builtin.Str.glued "" (slashed (wordOf v))) = (signs (wordOf v)).flatMap fun d => [("\\" : Str), d]
    rw [StrLaws.glued_eq_join]
    exact signs_glue (wordOf v).cps.toList
theorem signs_text : ∀ ns : List Int, signs (Txt.join "\n" (ns.map writOf)) = feed ns := by
  intro ns
  show signs (Builtin.Str.glued "\n" (ns.map writOf)) = _
  rw [StrLaws.glued_eq_join]
  induction ns with
  | nil => rfl
  | cons v r ih =>
    cases r with
    | nil => exact signs_writ v
    | cons u r =>
      show signs (writOf v ++ "\n" ++ Str.join "\n" ((u :: r).map writOf)) = _
      rw [signs_append, signs_append, signs_writ, ih, List.append_assoc]
      rfl
def wordOk (n : Nat) : Bool := (signs (Str.ofString (toString (Int.ofNat n)))).all (fun d => digs.contains d) && !(signs (Str.ofString (toString (Int.ofNat n)))).isEmpty && PySem.intText? (Str.ofString (toString (Int.ofNat n))) == some (n : Int)
theorem wk_0 : (List.range 100).all (fun j => wordOk (100 * 0 + j)) = true := by kernel_rfl
theorem wk_1 : (List.range 100).all (fun j => wordOk (100 * 1 + j)) = true := by kernel_rfl
theorem wk_2 : (List.range 100).all (fun j => wordOk (100 * 2 + j)) = true := by kernel_rfl
theorem wk_3 : (List.range 100).all (fun j => wordOk (100 * 3 + j)) = true := by kernel_rfl
theorem wk_4 : (List.range 100).all (fun j => wordOk (100 * 4 + j)) = true := by kernel_rfl
theorem wk_5 : (List.range 100).all (fun j => wordOk (100 * 5 + j)) = true := by kernel_rfl
theorem wk_6 : (List.range 100).all (fun j => wordOk (100 * 6 + j)) = true := by kernel_rfl
theorem wk_7 : (List.range 100).all (fun j => wordOk (100 * 7 + j)) = true := by kernel_rfl
theorem wk_8 : (List.range 100).all (fun j => wordOk (100 * 8 + j)) = true := by kernel_rfl
theorem wk_9 : (List.range 100).all (fun j => wordOk (100 * 9 + j)) = true := by kernel_rfl
theorem wk_at : ∀ k, k < 10 → (List.range 100).all (fun j => wordOk (100 * k + j)) = true
  | 0, _ => wk_0
  | 1, _ => wk_1
  | 2, _ => wk_2
  | 3, _ => wk_3
  | 4, _ => wk_4
  | 5, _ => wk_5
  | 6, _ => wk_6
  | 7, _ => wk_7
  | 8, _ => wk_8
  | 9, _ => wk_9
  | k + 10, h => absurd h (by omega)
theorem words_all : ∀ n, n < 1000 → ((signs (Str.ofString (toString (Int.ofNat n)))).all fun d => digs.contains d) = true ∧ signs (Str.ofString (toString (Int.ofNat n))) ≠ [] ∧ PySem.intText? (Str.ofString (toString (Int.ofNat n))) = some (n : Int) := fun n h => by
  have z : wordOk (100 * (n / 100) + n % 100) = true := List.all_eq_true.mp (wk_at (n / 100) (by omega)) (n % 100) (List.mem_range.mpr (Nat.mod_lt _ (by decide)))
  rw [Nat.div_add_mod] at z
  unfold wordOk at z
  rw [Bool.and_eq_true, Bool.and_eq_true] at z
  refine ⟨z.1.1, fun q => ?_, eq_of_beq z.2⟩
  have z2 := z.1.2
  rw [q] at z2
  exact absurd z2 (by decide)
theorem word_facts (v : Int) : (∀ d ∈ signs (wordOf v), d ∈ digs) ∧ signs (wordOf v) ≠ [] ∧ PySem.intText? (wordOf v) = some (v.fmod 1000) := by
  have h0 := Int.fmod_nonneg_of_pos v (show (0 : Int) < 1000 by decide)
  have h1 := Int.fmod_lt_of_pos v (show (0 : Int) < 1000 by decide)
  obtain ⟨n, hn⟩ := Int.eq_ofNat_of_zero_le h0
  have hn' : n < 1000 := by omega
  obtain ⟨a, b, c⟩ := words_all n hn'
  unfold wordOf
  rw [hn]
  refine ⟨fun d hd => ?_, b, c⟩
  have := List.all_eq_true.mp a d hd
  simpa using this
theorem word_good (v : Int) : Good (wordOf v) := ⟨⟨_, (word_facts v).2.2⟩, by have := word_len (v := v); omega⟩
theorem word_left (v : Int) : left (wordOf v) = v.fmod 5 := by
  unfold left
  rw [(word_facts v).2.2]
  show (v.fmod 1000).fmod 5 = v.fmod 5
  rw [Int.fmod_eq_emod_of_nonneg _ (by decide), Int.fmod_eq_emod_of_nonneg _ (by decide), Int.fmod_eq_emod_of_nonneg _ (by decide)]
  omega
theorem catS_signs (x : Str) : catS (signs x) = x := by
  have key : ∀ (l : List Nat) (a : Str), (l.map fun n => (⟨#[n]⟩ : Str)).foldl (· ++ ·) a = a ++ (⟨l.toArray⟩ : Str) := by
    intro l
    induction l with
    | nil =>
      intro a
      show a = (⟨a.cps ++ #[]⟩ : Str)
      rw [Array.append_empty]
    | cons c r ih =>
      intro a
      rw [List.map_cons, List.foldl_cons, ih]
      show (⟨(a.cps ++ #[c]) ++ r.toArray⟩ : Str) = ⟨a.cps ++ (c :: r).toArray⟩
      congr 1
      rw [Array.append_assoc]
      congr 1
      apply Array.ext'
      simp
  have := key x.cps.toList ""
  unfold signs
  rw [show (("" : Str) ++ (⟨x.cps.toList.toArray⟩ : Str)) = x from by
    show (⟨#[] ++ x.cps.toList.toArray⟩ : Str) = x
    rw [Array.empty_append, Array.toArray_toList]] at this
  exact this
theorem wr_len (v : Int) : (wr v).length ≤ 6 := by
  unfold wr
  have h := word_len (v := v)
  have e := signs_length (wordOf v)
  cases decide (v > 999) with
  | true =>
    show (("\"" : Str) :: (signs (wordOf v) ++ [("\"" : Str)])).length ≤ 6
    rw [List.length_cons, List.length_append, List.length_singleton]; omega
  | false => rw [wrote_len]; omega
theorem feed_len : ∀ ns : List Int, (feed ns).length ≤ 7 * ns.length
  | [] => Nat.le_refl _
  | [v] => by have := wr_len v; show (wr v).length ≤ _; simp only [List.length_cons, List.length_nil]; omega
  | v :: u :: r => by
    have := wr_len v
    have ih := feed_len (u :: r)
    show (wr v ++ ("\n" : Str) :: feed (u :: r)).length ≤ _
    simp only [List.length_append, List.length_cons] at ih ⊢
    omega
variable {w : World} {mg mb : Str → Option Value} {A : Around} {s : Shared} {h₀ : Heap}
theorem seg_lexer {g : Heap} {L DX : Addr} {m : Str → Option Value} {news : List (Addr × Obj)} {xs : List Value} {ns : List Int} {kX : Nat} {mean : ExcName → Option Value} {lo : List Str} (B : Base w mg mb g) (T : Top topProg lo mean mg mb g) (C : CodeHd g 263 259) (R : Room A 8)
    (S : St g L m ((259, tabObj #[]) :: news) s.heap) (hX : (DX, listOf xs.toArray kX) ∈ news) (mw : m "written" = some (.ref DX)) (hx : StrsAre xs (ns.map writOf)) (hn : ns.length = 9) :
    wpAny (model pw w) A (exec (sN 3) (lEnv L)) (fun f s' => f = .next ∧ ∃ xl dl xq lst pl t1 t2 t3 t4 tw u n k vs fixed tab h' t', s' = { s with heap := h', toks := t' } ∧
      St g L (fun z => if z = "lexer" then some (.ref xl) else m z) ((dl, lexD w.params t1 t2 t3 t4 (.int ((1 : Nat) : Int) u) (.ref xq) tw pl n) :: (lst, listOf vs.toArray k) :: (pl, listOf #[] 0) :: (fixed ++ (259, tabObj tab) :: news)) h' ∧ StrsAre vs (feed ns) ∧ LxOf fixed xl dl xq lst) Bot s := by
  refine wpQ fun QQ hQ => ?_
  show wpAny _ _ (exec (.Assign [.Name _ _] _ _) _) _ _ _
  walk_at "m.step"
  refine eCall (eGlobal S B (by rfl : nsIn (K w.params) mainGlobals "_law_lexer" = some (some (.ref 264))) ?_ (by kernel_rfl) (by kernel_rfl))
  refine callWith_fn (by rfl) (by rfl) (args1 ?_)
  refine eMeth ?_
  walk_at "m.step"
  refine GM.join ?_
  refine callWith_val (by rfl) (by rfl) (fun a e => nomatch e) (args1 ?_)
  walk_at "m.step"
  have hlen : (Txt.join "\n" (ns.map writOf)).length ≤ 100 := by
    rw [← signs_length, signs_text]
    have := feed_len ns
    omega
  have hwt : ((ns.map writOf).map (·.length)).sum + (ns.map writOf).length ≤ 1048576 := by
    have key : ∀ l : List Int, ((l.map writOf).map (·.length)).sum ≤ 6 * l.length := fun l => by
      induction l with
      | nil => exact Nat.le_refl _
      | cons v r ih =>
        have := wr_len v
        rw [← signs_writ, signs_length] at this
        simp only [List.map_cons, List.sum_cons, List.length_cons]
        omega
    have := key ns
    rw [List.length_map]; omega
  refine kw0 (join_listW (items := xs.toArray) (ys := ns.map writOf) ⟨_, (S.N _ (.tail _ hX)).1, rfl, kX, rfl⟩ hx (by decide) hwt fun t1 k1 => ?_)
  refine kw0 ⟨⟨264, _, _, rfl, S.F.keep _ _ (B.X _ _ (by rfl : (K w.params).lookup 264 = some (ob264 w.params))), rfl⟩, ?_⟩
  have S' : St g L m ([(259, tabObj #[])] ++ news) s.heap := S
  refine call_post (lexer_spec (x := Txt.join "\n" (ns.map writOf)) B T C S.F.keep (Room.mono R (by decide)) S'.owns hlen) ?_
  rintro v h2 t2 hz2 hk2 ⟨xl, dl, xq, lst, pl, t1, t2', t3, t4, tw, u, n, k, vs, fixed, rfl, hvs, hLx, hF, tab, htab⟩
  rw [signs_text] at hvs
  have S2 := S'.after (own' := [(259, tabObj tab)]) hz2 hk2 rfl (fun p hp => by
    rcases List.mem_singleton.mp hp with rfl
    exact htab)
  have S3 := S'.madeAll S2 rfl hF
  refine sLocal S3 (fun h4 S4 => ?_) (by kernel_rfl) (by kernel_rfl)
  refine hQ _ _ ⟨rfl, xl, dl, xq, lst, pl, t1, t2', t3, t4, tw, u, n, k, vs, fixed, tab, h4, _, rfl, S4.permP ?_, hvs, hLx⟩
  refine (List.perm_middle (l₁ := [(dl, _), (lst, _)]) (a := (pl, _))).trans ?_
  exact .refl _
end
section
/-! the sort is stable: its tree of questions, asked of keys -/
section
variable {cmp : Nat → Nat → (Bool → Shared → Prop) → Shared → Prop} {s : Shared} {n : Nat} {k : Nat → Int}
def Asked (cmp : Nat → Nat → (Bool → Shared → Prop) → Shared → Prop) (n : Nat) (k : Nat → Int) (s : Shared) : Prop :=
  ∀ i j (C : Bool → Shared → Prop), i < n → j < n → C (decide (k i < k j)) s → cmp i j C s
abbrev pAt (p : Array Nat) (i : Nat) : Nat := p.getD i 0
theorem pAt_of {p q : Array Nat} {i j : Nat} (h : p[i]? = q[j]?) : pAt p i = pAt q j := by
  unfold pAt
  rw [Array.getD_eq_getD_getElem?, Array.getD_eq_getD_getElem?, h]
def Lex (k : Nat → Int) (i j : Nat) : Prop := k i < k j ∨ (k i = k j ∧ i < j)
theorem Lex.trans {a b c : Nat} (h1 : Lex k a b) (h2 : Lex k b c) : Lex k a c := by unfold Lex at *; omega
structure Pm (n : Nat) (p : Array Nat) (x : Nat) : Prop where
  size : p.size = n
  perm : p.toList.Perm (List.range n)
  le : x ≤ n
  id : ∀ j, x ≤ j → j < n → pAt p j = j
  lo : ∀ j, j < x → pAt p j < x
theorem Pm.up {p : Array Nat} {x y : Nat} (P : Pm n p x) (h : x ≤ y) (hy : y ≤ n) : Pm n p y :=
  ⟨P.size, P.perm, hy, fun j h1 h2 => P.id j (by omega) h2, fun j h1 => by
    by_cases q : j < x
    · have := P.lo j q; omega
    · rw [P.id j (by omega) (by omega)]; exact h1⟩
theorem Pm.lt {p : Array Nat} {x : Nat} (P : Pm n p x) {j : Nat} (h : j < n) : pAt p j < n := (P.up P.le (Nat.le_refl n)).lo j h
def Inc (k : Nat → Int) (p : Array Nat) (m : Nat) : Prop := ∀ i j, i < j → j < m → Lex k (pAt p i) (pAt p j)
theorem inc_more {p : Array Nat} {m : Nat} (I : Inc k p m) (h : m = 0 ∨ Lex k (pAt p (m - 1)) (pAt p m)) : Inc k p (m + 1) := by
  intro i j hij hj
  by_cases q : j < m
  · exact I i j hij q
  · have e : j = m := by omega
    subst e
    rcases h with h | h
    · omega
    · by_cases q2 : i = j - 1
      · subst q2; exact h
      · exact (I i (j - 1) (by omega) (by omega)).trans h
theorem asc_wp {p : Array Nat} {Q : Nat → Shared → Prop} (H : Asked cmp n k s) : ∀ f x, Pm n p x → 1 ≤ x → Inc k p x → x + f = n → (∀ m, x ≤ m → m ≤ n → Inc k p m → (m = n ∨ (m < n ∧ k m < k (pAt p (m - 1)))) → Q m s) → (kas_asc p f x).kasWp cmp Q s
  | 0, x, P, hx, I, e, h => h x (Nat.le_refl _) P.le I (.inl (by omega))
  | f + 1, x, P, hx, I, e, h => by
    have e1 : pAt p x = x := P.id x (Nat.le_refl _) (by omega)
    show cmp (pAt p x) (pAt p (x - 1)) _ s
    have l1 := P.lo (x - 1) (by omega)
    refine H _ _ _ (by omega) (by omega) ?_
    by_cases c : k (pAt p x) < k (pAt p (x - 1))
    · rw [decide_eq_true c]; show KasT.kasWp cmp (if true = true then _ else _) Q s; rw [if_pos rfl]
      rw [e1] at c
      exact h x (Nat.le_refl _) P.le I (.inr ⟨by omega, c⟩)
    · rw [decide_eq_false c]; show KasT.kasWp cmp (if false = true then _ else _) Q s; rw [if_neg Bool.false_ne_true]
      refine asc_wp H f (x + 1) (P.up (by omega) (by omega)) (by omega) (inc_more I (.inr ?_)) (by omega) fun m hm hm2 => h m (by omega) hm2
      rw [e1] at c ⊢
      unfold Lex; omega
theorem rev_at {p : Array Nat} {i j : Nat} (hj : j ≤ p.size) (t : Nat) : pAt (kas_rev p i j) t = if i ≤ t ∧ t < j then pAt p (i + j - 1 - t) else pAt p t := by
  have e := getElem?_mirror_all (xs := p) (i := i) hj t
  unfold kas_rev
  split
  · rename_i h; rw [if_pos h] at e; exact pAt_of e
  · rename_i h; rw [if_neg h] at e; exact pAt_of e
theorem Pm.rev {p : Array Nat} {x i : Nat} (P : Pm n p x) : Pm n (kas_rev p i x) x := by
  have hs : x ≤ p.size := by rw [P.size]; exact P.le
  refine ⟨(kas_rev_size i x).trans P.size, ?_, P.le, fun j h1 h2 => ?_, fun j h1 => ?_⟩
  · exact (Array.perm_iff_toList_perm.mp (mirror_perm p i x _)).trans P.perm
  · rw [rev_at hs, if_neg (by omega)]; exact P.id j h1 h2
  · rw [rev_at hs]
    split
    · exact P.lo _ (by omega)
    · exact P.lo j h1
def Dec (k : Nat → Int) (p : Array Nat) (m : Nat) : Prop := ∀ i j, i < j → j < m → Lex k (pAt p j) (pAt p i)
structure DInv (n : Nat) (k : Nat → Int) (p : Array Nat) (x q : Nat) : Prop where
  P : Pm n p x
  hq : q + 1 ≤ x
  blk : ∀ t, x - (q + 1) ≤ t → t < x → pAt p t = t ∧ k t = k (x - 1)
  pre : Dec k p (x - (q + 1))
  top : ∀ i, i < x - (q + 1) → k (x - 1) < k (pAt p i)
theorem DInv.turn {p : Array Nat} {x q : Nat} (D : DInv n k p x q) : Dec k (kas_rev p (x - (q + 1)) x) x := by
  have hs : x ≤ p.size := by rw [D.P.size]; exact D.P.le
  have hq := D.hq
  intro i j hij hj
  rw [rev_at hs, rev_at hs]
  by_cases h1 : x - (q + 1) ≤ i
  · rw [if_pos (by omega), if_pos (by omega)]
    obtain ⟨a1, a2⟩ := D.blk (x - (q + 1) + x - 1 - i) (by omega) (by omega)
    obtain ⟨b1, b2⟩ := D.blk (x - (q + 1) + x - 1 - j) (by omega) (by omega)
    rw [a1, b1]
    unfold Lex; rw [a2, b2]; right; omega
  · rw [if_neg (c := _ ∧ i < x) (by omega)]
    have ht := D.top i (by omega)
    by_cases h2 : x - (q + 1) ≤ j
    · rw [if_pos (by omega)]
      obtain ⟨b1, b2⟩ := D.blk (x - (q + 1) + x - 1 - j) (by omega) (by omega)
      rw [b1]; unfold Lex; rw [b2]; left; exact ht
    · rw [if_neg (by omega)]
      exact D.pre i j hij (by omega)
theorem DInv.turn0 {p : Array Nat} {x : Nat} (D : DInv n k p x 0) : Dec k p x := by
  have hq := D.hq
  intro i j hij hj
  by_cases h2 : j < x - 1
  · exact D.pre i j hij (by omega)
  · have e : j = x - 1 := by omega
    subst e
    obtain ⟨b1, b2⟩ := D.blk (x - 1) (by omega) (by omega)
    rw [b1]; unfold Lex; left; exact D.top i (by omega)
theorem DInv.next {p : Array Nat} {x : Nat} (P : Pm n p x) (h0 : Dec k p x) (hx : x < n) (ht : ∀ i, i < x → k x < k (pAt p i)) : DInv n k p (x + 1) 0 := by
  refine ⟨P.up (by omega) (by omega), by omega, fun t h1 h2 => ?_, ?_, ?_⟩
  · have e : t = x := by omega
    subst e
    exact ⟨P.id t (Nat.le_refl _) hx, rfl⟩
  · rw [show x + 1 - (0 + 1) = x by omega]; exact h0
  · rw [show x + 1 - (0 + 1) = x by omega]; exact ht
theorem desc_wp {Q : Array Nat × Nat × Nat → Shared → Prop} (H : Asked cmp n k s) : ∀ f p x q, DInv n k p x q → x + f = n → (∀ p' x' q', DInv n k p' x' q' → Q (p', x', q') s) → (kas_desc f p x q).kasWp cmp Q s
  | 0, p, x, q, D, e, h => h p x q D
  | f + 1, p, x, q, D, e, h => by
    have hq := D.hq
    have e1 : pAt p x = x := D.P.id x (Nat.le_refl _) (by omega)
    obtain ⟨e2, _⟩ := D.blk (x - 1) (by omega) (by omega)
    have hkeys : ∀ i, i < x → k (x - 1) ≤ k (pAt p i) := fun i hi => by
      by_cases h1 : i < x - (q + 1)
      · exact Int.le_of_lt (D.top i h1)
      · obtain ⟨a1, a2⟩ := D.blk i (by omega) hi
        rw [a1, a2]; exact Int.le_refl _
    have hs : x ≤ p.size := by rw [D.P.size]; exact D.P.le
    show cmp (pAt p x) (pAt p (x - 1)) _ s
    refine H _ _ _ (by omega) (by omega) ?_
    rw [e1, e2]
    by_cases c : k x < k (x - 1)
    · rw [decide_eq_true c]; show KasT.kasWp cmp (if true = true then _ else _) Q s; rw [if_pos rfl]
      by_cases hq0 : q > 0
      · rw [if_pos hq0]
        refine desc_wp H f _ (x + 1) 0 (DInv.next D.P.rev D.turn (by omega) fun i hi => ?_) (by omega) h
        rw [rev_at hs]
        split
        · exact Int.lt_of_lt_of_le c (hkeys _ (by omega))
        · exact Int.lt_of_lt_of_le c (hkeys _ hi)
      · rw [if_neg hq0]
        have eq0 : q = 0 := by omega
        subst eq0
        exact desc_wp H f _ (x + 1) 0 (DInv.next D.P D.turn0 (by omega) fun i hi => Int.lt_of_lt_of_le c (hkeys _ hi)) (by omega) h
    · rw [decide_eq_false c]; show KasT.kasWp cmp (if false = true then _ else _) Q s; rw [if_neg Bool.false_ne_true]
      show cmp (pAt p (x - 1)) (pAt p x) _ s
      refine H _ _ _ (by omega) (by omega) ?_
      rw [e1, e2]
      by_cases d : k (x - 1) < k x
      · rw [decide_eq_true d]; show KasT.kasWp cmp (if true = true then _ else _) Q s; rw [if_pos rfl]
        exact h p x q D
      · rw [decide_eq_false d]; show KasT.kasWp cmp (if false = true then _ else _) Q s; rw [if_neg Bool.false_ne_true]
        have ek : k x = k (x - 1) := by omega
        refine desc_wp H f p (x + 1) (q + 1) ⟨D.P.up (by omega) (by omega), by omega, fun t h1 h2 => ?_, ?_, ?_⟩ (by omega) h
        · rw [show x + 1 - 1 = x by omega]
          by_cases ht : t = x
          · subst ht; exact ⟨e1, rfl⟩
          · obtain ⟨a1, a2⟩ := D.blk t (by omega) (by omega)
            exact ⟨a1, a2.trans ek.symm⟩
        · rw [show x + 1 - (q + 1 + 1) = x - (q + 1) by omega]; exact D.pre
        · rw [show x + 1 - (q + 1 + 1) = x - (q + 1) by omega, show x + 1 - 1 = x by omega, ek]; exact D.top
theorem tail_wp {p : Array Nat} {x : Nat} {Q : Nat × Array Nat → Shared → Prop} (H : Asked cmp n k s) (P : Pm n p x) (hx : 1 ≤ x) (D : Dec k p x) (h : ∀ m p', Pm n p' m → 1 ≤ m → Inc k p' m → Q (m, p') s) : (kas_tail3 x n p).kasWp cmp Q s := by
  unfold kas_tail3
  rw [KasT.kasWp_bind]
  have hs : x ≤ p.size := by rw [P.size]; exact P.le
  have hle := P.le
  refine asc_wp H (n - x) x P.rev hx (fun i j hij hj => ?_) (by omega) fun m h1 h2 hI _ => h m _ (P.rev.up h1 h2) (by omega) hI
  rw [rev_at hs, rev_at hs, if_pos (by omega), if_pos (by omega)]
  exact D _ _ (by omega) (by omega)
theorem descPart_wp {p : Array Nat} {x : Nat} {Q : Nat × Array Nat → Shared → Prop} (H : Asked cmp n k s) (D : DInv n k p (x + 1) 0) (h : ∀ m p', Pm n p' m → 1 ≤ m → Inc k p' m → Q (m, p') s) : (kas_descPart x n p).kasWp cmp Q s := by
  unfold kas_descPart
  rw [KasT.kasWp_bind]
  have hle := D.P.le
  refine desc_wp H (n - (x + 1)) p (x + 1) 0 D (by omega) fun p' x' q' D' => ?_
  have hq := D'.hq
  dsimp only
  by_cases hq0 : q' > 0
  · rw [if_pos hq0]
    exact tail_wp H D'.P.rev (by omega) D'.turn h
  · rw [if_neg hq0]
    have eq0 : q' = 0 := by omega
    subst eq0
    exact tail_wp H D'.P (by omega) D'.turn0 h
theorem range_at {i : Nat} (h : i < n) : pAt (List.toArray (List.range n)) i = i := by
  unfold pAt
  rw [Array.getD_eq_getD_getElem?]
  simp [h]
theorem pm_range {x : Nat} (h : x ≤ n) : Pm n (List.toArray (List.range n)) x :=
  ⟨by simp, .refl _, h, fun j h1 h2 => range_at h2, fun j h1 => by rw [range_at (by omega)]; exact h1⟩
theorem count_wp {Q : Nat × Array Nat → Shared → Prop} (H : Asked cmp n k s) (hn : 1 ≤ n) (h : ∀ m p', Pm n p' m → 1 ≤ m → Inc k p' m → Q (m, p') s) : (kas_count n (List.toArray (List.range n))).kasWp cmp Q s := by
  unfold kas_count
  rw [KasT.kasWp_bind]
  refine asc_wp H (n - 1) 1 (pm_range hn) (by omega) (fun i j hij hj => by omega) (by omega) fun m h1 h2 hI hor => ?_
  by_cases hm : m = n
  · subst hm
    rw [if_pos (by simp)]
    exact h _ _ (pm_range (Nat.le_refl _)) h1 hI
  · rw [if_neg (by simpa using hm)]
    have hlt : m < n := by omega
    obtain ⟨_, hk⟩ := hor.resolve_left hm
    rw [range_at (by omega)] at hk
    by_cases hg : m > 1
    · rw [if_pos hg]
      show cmp (pAt _ 0) (pAt _ (m - 1)) _ s
      rw [range_at (by omega), range_at (by omega)]
      refine H _ _ _ (by omega) (by omega) ?_
      by_cases c : k 0 < k (m - 1)
      · rw [decide_eq_true c]; show KasT.kasWp cmp (if true = true then _ else _) Q s; rw [if_pos rfl]
        exact h _ _ (pm_range (by omega)) h1 hI
      · rw [decide_eq_false c]; show KasT.kasWp cmp (if false = true then _ else _) Q s; rw [if_neg Bool.false_ne_true]
        have hs : m ≤ (List.toArray (List.range n)).size := by simp; omega
        have hall : ∀ t, t < m → k t = k (m - 1) := fun t ht => by
          have a1 : k 0 ≤ k t := by
            by_cases z : t = 0
            · subst z; exact Int.le_refl _
            · have := hI 0 t (by omega) ht
              rw [range_at (by omega), range_at (by omega)] at this
              unfold Lex at this; omega
          have a2 : k t ≤ k (m - 1) := by
            by_cases z : t = m - 1
            · subst z; exact Int.le_refl _
            · have := hI t (m - 1) (by omega) (by omega)
              rw [range_at (by omega), range_at (by omega)] at this
              unfold Lex at this; omega
          omega
        refine descPart_wp H (DInv.next (pm_range (by omega)).rev (fun i j hij hj => ?_) hlt fun i hi => ?_) h
        · rw [rev_at hs, rev_at hs, if_pos (by omega), if_pos (by omega), range_at (by omega), range_at (by omega)]
          exact .inr ⟨(hall (0 + m - 1 - j) (by omega)).trans (hall (0 + m - 1 - i) (by omega)).symm, by omega⟩
        · rw [rev_at hs, if_pos (by omega), range_at (by omega), hall (0 + m - 1 - i) (by omega)]; exact hk
    · rw [if_neg hg]
      have em : m = 1 := by omega
      subst em
      refine descPart_wp H (DInv.next (pm_range (by omega)) (fun i j hij hj => by omega) hlt fun i hi => ?_) h
      rw [range_at (by omega)]
      have e : i = 1 - 1 := by omega
      rw [e]; exact hk
theorem place_wp {p : Array Nat} {x : Nat} {Q : Nat → Shared → Prop} (H : Asked cmp n k s) (P : Pm n p x) (hx : x < n) (I : Inc k p x) (h : ∀ l, l ≤ x → (∀ i, i < l → Lex k (pAt p i) x) → (∀ i, l ≤ i → i < x → Lex k x (pAt p i)) → Q l s) :
    ∀ f l r, l ≤ r → r ≤ x → r - l ≤ f → (∀ i, i < l → Lex k (pAt p i) x) → (∀ i, r ≤ i → i < x → Lex k x (pAt p i)) → (kas_place p x f l r).kasWp cmp Q s
  | 0, l, r, h1, h2, h3, hl, hr => h l (by omega) hl fun i a b => hr i (by omega) b
  | f + 1, l, r, h1, h2, h3, hl, hr => by
    unfold kas_place
    by_cases hge : l ≥ r
    · rw [if_pos hge]
      exact h l (by omega) hl fun i a b => hr i (by omega) b
    · rw [if_neg hge]
      show cmp (pAt p x) (pAt p ((l + r) / 2)) _ s
      have e1 : pAt p x = x := P.id x (Nat.le_refl _) hx
      have l1 := P.lo ((l + r) / 2) (by omega)
      refine H _ _ _ (by omega) (by omega) ?_
      rw [e1]
      by_cases c : k x < k (pAt p ((l + r) / 2))
      · rw [decide_eq_true c]; show KasT.kasWp cmp (if true = true then _ else _) Q s; rw [if_pos rfl]
        refine place_wp H P hx I h f l ((l + r) / 2) (by omega) (by omega) (by omega) hl fun i a b => ?_
        have q : Lex k x (pAt p ((l + r) / 2)) := .inl c
        by_cases z : i = (l + r) / 2
        · subst z; exact q
        · exact q.trans (I _ _ (by omega) b)
      · rw [decide_eq_false c]; show KasT.kasWp cmp (if false = true then _ else _) Q s; rw [if_neg Bool.false_ne_true]
        refine place_wp H P hx I h f ((l + r) / 2 + 1) r (by omega) (by omega) (by omega) (fun i a => ?_) hr
        have q : Lex k (pAt p ((l + r) / 2)) x := by unfold Lex; omega
        by_cases z : i = (l + r) / 2
        · subst z; exact q
        · exact (I _ _ (by omega) (by omega)).trans q
theorem bubble_at {p : Array Nat} {x l : Nat} (hx : x < p.size) (hl : l ≤ x) (t : Nat) : pAt (bubble p x (x - l)) t = if t = l then pAt p x else if l < t ∧ t ≤ x then pAt p (t - 1) else pAt p t := by
  have e := getElem?_bubble hx (x - l) (by omega) t
  rw [show x - (x - l) = l by omega] at e
  by_cases h1 : t = l
  · rw [if_pos h1] at e ⊢; exact pAt_of e
  · rw [if_neg h1] at e ⊢
    by_cases h2 : l < t ∧ t ≤ x
    · rw [if_pos h2] at e ⊢; exact pAt_of e
    · rw [if_neg h2] at e ⊢; exact pAt_of e
theorem bin_wp {Q : Array Nat → Shared → Prop} (H : Asked cmp n k s) (h : ∀ p, Pm n p n → Inc k p n → Q p s) : ∀ f p x, Pm n p x → Inc k p x → x + f = n → (kas_bin f p x).kasWp cmp Q s
  | 0, p, x, P, I, e => by
    have e : x = n := by omega
    subst e
    exact h p P I
  | f + 1, p, x, P, I, e => by
    unfold kas_bin
    rw [KasT.kasWp_bind]
    have e1 : pAt p x = x := P.id x (Nat.le_refl _) (by omega)
    have hs : x < p.size := by rw [P.size]; omega
    refine place_wp H P (by omega) I (fun l hl hlo hhi => ?_) x 0 x (by omega) (by omega) (by omega) (fun i q => by omega) (fun i q1 q2 => by omega)
    refine bin_wp H h f _ (x + 1) ⟨(bubble_size _ _ _).trans P.size, (Array.perm_iff_toList_perm.mp (bubble_perm _ _ _)).trans P.perm, by omega, fun j h1 h2 => ?_, fun j h1 => ?_⟩ (fun i j hij hj => ?_) (by omega)
    · rw [bubble_at hs hl, if_neg (by omega), if_neg (by omega)]
      exact P.id j (by omega) h2
    · rw [bubble_at hs hl]
      by_cases j1 : j = l
      · rw [if_pos j1, e1]; omega
      · rw [if_neg j1]
        by_cases j2 : l < j ∧ j ≤ x
        · rw [if_pos j2]
          have := P.lo (j - 1) (by omega); omega
        · rw [if_neg j2]
          have := P.lo j (by omega); omega
    · rw [bubble_at hs hl, bubble_at hs hl, e1]
      by_cases i1 : i = l
      · rw [if_pos i1, if_neg (by omega), if_pos (by omega)]
        exact hhi _ (by omega) (by omega)
      · rw [if_neg i1]
        by_cases i2 : l < i ∧ i ≤ x
        · rw [if_pos i2, if_neg (by omega), if_pos (by omega)]
          exact I _ _ (by omega) (by omega)
        · rw [if_neg i2]
          by_cases j1 : j = l
          · rw [if_pos j1]; exact hlo i (by omega)
          · rw [if_neg j1]
            by_cases j2 : l < j ∧ j ≤ x
            · rw [if_pos j2]
              exact I _ _ (by omega) (by omega)
            · rw [if_neg j2]
              exact I _ _ (by omega) (by omega)
theorem sort_wp {Q : Array Nat → Shared → Prop} (H : Asked cmp n k s) (hn : 1 ≤ n) (h : ∀ p, Pm n p n → Inc k p n → Q p s) : (kas_sort n).kasWp cmp Q s := by
  unfold kas_sort
  rw [KasT.kasWp_bind]
  refine count_wp H hn fun m p' P hm I => ?_
  have hle := P.le
  dsimp only
  by_cases hlt : m < n
  · rw [if_pos hlt]
    have e : max m 1 = m := by omega
    rw [e]
    exact bin_wp H h (n - m) p' m P I (by omega)
  · rw [if_neg hlt]
    have e : m = n := by omega
    subst e
    exact h p' P I
end
end
section
/-! the row: a stable arrangement -/
def keyOf (ns : List Int) (j : Nat) : Int := left (wordOf (ns.getD j 0))
def wAt (ns : List Int) (j : Nat) : Str := wordOf (ns.getD j 0)
structure Arr (ns : List Int) (i : Nat) (σ : List Nat) : Prop where
  perm : σ.Perm (List.range i)
  ord : σ.Pairwise (Lex (keyOf ns))
theorem Arr.lt {ns : List Int} {i : Nat} {σ : List Nat} (R : Arr ns i σ) {j : Nat} (h : j ∈ σ) : j < i := by
  have := R.perm.mem_iff.mp h
  exact List.mem_range.mp this
theorem Arr.len {ns : List Int} {i : Nat} {σ : List Nat} (R : Arr ns i σ) : σ.length = i := by rw [R.perm.length_eq, List.length_range]
theorem Arr.ins {ns : List Int} {i p : Nat} {σ : List Nat} (R : Arr ns i σ) (Z : AtR (σ.map (wAt ns)) (left (wAt ns i)) p) : Arr ns (i + 1) (σ.take p ++ i :: σ.drop p) := by
  have hp := Z.le
  rw [List.length_map] at hp
  have hat : ∀ j (h : j < σ.length), left ((σ.map (wAt ns))[j]'(by simpa using h)) = keyOf ns σ[j] := fun j h => by rw [List.getElem_map]; rfl
  constructor
  · refine List.perm_middle.trans ?_
    rw [List.take_append_drop, List.range_succ]
    exact (R.perm.cons i).trans (List.perm_append_singleton i (List.range i)).symm
  · have h0 := R.ord
    rw [← List.take_append_drop p σ, List.pairwise_append] at h0
    rw [List.pairwise_append, List.pairwise_cons]
    have hlo : ∀ a ∈ σ.take p, Lex (keyOf ns) a i := fun a ha => by
      obtain ⟨j, hj, rfl⟩ := List.getElem_of_mem ha
      rw [List.length_take] at hj
      have h1 : j < σ.length := by omega
      have e : (σ.take p)[j]'(by rw [List.length_take]; exact hj) = σ[j] := List.getElem_take
      have z := Z.below j (by simpa using h1) (by omega)
      rw [hat j h1] at z
      have l := R.lt (List.getElem_mem h1)
      have z' : keyOf ns σ[j] ≤ keyOf ns i := z
      rw [e]; unfold Lex; omega
    have hhi : ∀ a ∈ σ.drop p, Lex (keyOf ns) i a := fun a ha => by
      obtain ⟨j, hj, rfl⟩ := List.getElem_of_mem ha
      rw [List.length_drop] at hj
      have h1 : p + j < σ.length := by omega
      have e : (σ.drop p)[j]'(by rw [List.length_drop]; exact hj) = σ[p + j] := List.getElem_drop
      have z := Z.above (p + j) (by simpa using h1) (by omega)
      rw [hat (p + j) h1] at z
      have z' : keyOf ns i < keyOf ns σ[p + j] := z
      rw [e]; unfold Lex; omega
    refine ⟨h0.1, ⟨hhi, h0.2.1⟩, fun a ha b hb => ?_⟩
    rcases List.mem_cons.mp hb with rfl | hb
    · exact hlo a ha
    · exact h0.2.2 a ha b hb
theorem Arr.sorted {ns : List Int} {i : Nat} {σ : List Nat} (R : Arr ns i σ) : (σ.map (wAt ns)).Pairwise fun a b => left a ≤ left b := by
  rw [List.pairwise_map]
  refine R.ord.imp fun {a b} h => ?_
  show keyOf ns a ≤ keyOf ns b
  unfold Lex at h; omega
theorem Arr.good {ns : List Int} {σ : List Nat} : ∀ x ∈ σ.map (wAt ns), Good x := fun x hx => by
  obtain ⟨j, _, rfl⟩ := List.mem_map.mp hx
  exact word_good _
theorem feed_cons (v : Int) (r : List Int) : ∃ tail, feed (v :: r) = wr v ++ tail ∧ ((tail = [] ∧ r = []) ∨ tail = ("\n" : Str) :: feed r) := by
  cases r with
  | nil => exact ⟨[], (List.append_nil _).symm, .inl ⟨rfl, rfl⟩⟩
  | cons u r => exact ⟨_, rfl, .inr rfl⟩
variable {w : World} {mg mb : Str → Option Value} {A : Around} {s : Shared} {h₀ : Heap}
theorem seg_row {g : Heap} {L : Addr} {m : Str → Option Value} {news : List (Addr × Obj)} {oR : Obj} (B : Base w mg mb g) (S : St g L m ((L + 2, oR) :: news) s.heap) (ho : oR.data = .cell none) :
    wpAny (model pw w) A (exec (sN 4) (lEnv L)) (fun f s' => f = .next ∧ ∃ DR oR' h' t', s' = { s with heap := h', toks := t' } ∧ St g L m ((L + 2, oR') :: (DR, listOf ([] : List Value).toArray 0) :: news) h' ∧ oR'.data = .cell (some (.ref DR))) Bot s := by
  show wpAny _ _ (exec (.Assign [.Name _ _] _ _) _) _ _ _
  walk_at "m.step"
  refine List_ (args0 (eNewList S (fun D h2 _ S2 => ?_) (by decide)))
  have S3 := S2.swap
  refine storeX_C S3.F S3.N (by rfl) (.head S3.fresh) ho (fun h9 oN' F9 N9 ho' => ?_) (by kernel_rfl) (by kernel_rfl)
  exact ⟨rfl, D, oN', h9, _, rfl, ⟨F9, N9, S3.nd⟩, ho'⟩
theorem seg_sort {g : Heap} {L xl dl xq lst pl DR : Addr} {m : Str → Option Value} {X fixed : List (Addr × Obj)} {oR : Obj} {vs : List Value} {ns : List Int} {t1 t2 t3 t4 tw u : Tok} {n k kp : Nat} (B : Base w mg mb g) (R : Room A 9)
    (S : St g L m ((dl, lexD w.params t1 t2 t3 t4 (.int ((1 : Nat) : Int) u) (.ref xq) tw pl n) :: (lst, listOf vs.toArray k) :: (DR, listOf ([] : List Value).toArray 0) :: X) s.heap)
    (hpl : (pl, listOf #[] kp) ∈ X) (hR : (L + 2, oR) ∈ X) (ho : oR.data = .cell (some (.ref DR))) (hfx : ∀ p ∈ fixed, p ∈ X) (hLx : LxOf fixed xl dl xq lst) (ml : m "lexer" = some (.ref xl)) (hvs : StrsAre vs (feed ns)) (hn : ns.length = 9) :
    wpAny (model pw w) A (exec (sN 5) (lEnv L)) (fun f s' => f = .next ∧ ∃ (m' : Str → Option Value) (ln' : Nat) (u' : Tok) (k' : Nat) (vs' : List Value) (kR : Nat) (rs : List Value) (σ : List Nat) (h' : Heap) (t' : Nat), s' = { s with heap := h', toks := t' } ∧
      St g L m' ((dl, lexD w.params t1 t2 t3 t4 (.int ((ln' : Nat) : Int) u') (.ref xq) tw pl n) :: (lst, listOf vs'.toArray k') :: (DR, listOf rs.toArray kR) :: X) h' ∧ StrsAre rs (σ.map (wAt ns)) ∧ Arr ns 9 σ ∧ ∀ z : Str, z ≠ "turn" → m' z = m z) Bot s := by
  show wpAny _ _ (exec (.For _ _ _ [] _) _) _ _ _
  refine wpQ fun QQ hQ => ?_
  refine eFor (eCall (eBuiltin (v := .type "range") S B (by rfl) (by kernel_rfl) (by decide) ?_ (by kernel_rfl) (by kernel_rfl)))
  refine callWith_val (by rfl) (by rfl) (fun a e => nomatch e) (args1 ?_)
  walk_at "m.step"
  refine kw0 (call_range_St (n := 9) S fun r ta tb tc h10 t10 S10 => ?_)
  refine eForRange (env := lEnv L) (n := 9) R.handled S10.tail S10.getHead (by decide)
    (fun i m₁ news₁ => ∃ (ln' : Nat) (u' : Tok) (k' : Nat) (vs' : List Value) (kR : Nat) (rs : List Value) (σ : List Nat) (pre : List Str), news₁ = (dl, lexD w.params t1 t2 t3 t4 (.int ((ln' : Nat) : Int) u') (.ref xq) tw pl n) :: (lst, listOf vs'.toArray k') :: (DR, listOf rs.toArray kR) :: X ∧
      (∀ z : Str, z ≠ "turn" → m₁ z = m z) ∧ (pre = [] ∨ pre = [("\n" : Str)]) ∧ StrsAre vs' (pre ++ feed (ns.drop i)) ∧ StrsAre rs (σ.map (wAt ns)) ∧ Arr ns i σ)
    ⟨1, u, k, vs, 0, [], [], [], rfl, fun _ _ => rfl, .inl rfl, hvs, .nil, ⟨.nil, .nil⟩⟩ ?_ ?_
  · rintro i t own m₁ news₁ h t' hi ⟨ln', u', k', vs', kR, rs, σ, pre, rfl, mz, hpre, hv', hrs, hA⟩ S'
    have S1 := S'.permP (List.perm_append_comm (l₁ := (dl, lexD w.params t1 t2 t3 t4 (.int ((ln' : Nat) : Int) u') (.ref xq) tw pl n) :: (lst, listOf vs'.toArray k') :: (DR, listOf rs.toArray kR) :: X) (l₂ := own))
    refine aName (env := lEnv L) S1 (fun h8 S8 => ?_) (by rfl) (by kernel_rfl)
    obtain ⟨m8, S8, mo8⟩ : ∃ m8, St g L m8 ([(dl, lexD w.params t1 t2 t3 t4 (.int ((ln' : Nat) : Int) u') (.ref xq) tw pl n), (lst, listOf vs'.toArray k')] ++ ((DR, listOf rs.toArray kR) :: (X ++ own))) h8 ∧ ∀ z : Str, z ≠ "turn" → m8 z = m₁ z := ⟨_, S8, fun z hz => if_neg hz⟩
    have hX8 : ∀ p ∈ X, h8.get? p.1 = some p.2 := fun p hp => (S8.N p (.tail _ (.tail _ (.tail _ (List.mem_append_left _ hp))))).1
    have ml8 : m8 "lexer" = some (.ref xl) := (mo8 _ (by decide)).trans ((mz _ (by decide)).trans ml)
    have Lx8 := hLx h8 fun p hp => hX8 p (hfx p hp)
    refine wpAny_execs_cons (wpAny_Expr (eCall (eGlobal S8 B (by rfl : nsIn (K w.params) mainGlobals "insort_right" = some (some (.ref 47))) ?_ (by kernel_rfl) (by kernel_rfl))))
    refine callWith_fn (by rfl) (by rfl) (args2 ?_)
    refine nCell (by rfl : (lEnv L).cells.lookup ("row" : Str) = some (L + 2)) (hX8 _ hR) ho ?_ (by rfl) (by kernel_rfl)
    refine eMeth ?_
    walk_at "m.step"
    refine method_inst S8.F B.X (⟨Lx8.inst, rfl, rfl, (S8.N _ (.head _)).1⟩) (by kernel_rfl) (by rfl : findIn (K w.params) (.ref 103) "get_token" = some (some (.ref 93))) (by kernel_rfl) (by rfl) ?_
    refine callWith_fn (by rfl) (by rfl) (args0 (kw0 ⟨⟨93, _, _, rfl, S8.F.keep _ _ (B.X _ _ (by rfl : (K w.params).lookup 93 = some (ob93 w.params))), rfl⟩, ?_⟩))
    have hi9 : i < ns.length := by omega
    obtain ⟨tail, ef, ht⟩ := feed_cons ns[i] (ns.drop (i + 1))
    rw [← List.drop_eq_getElem_cons hi9] at ef
    rw [ef] at hv'
    obtain ⟨w1, w2, w3⟩ := word_facts ns[i]
    have hfl := feed_len (ns.drop i)
    rw [ef, List.length_drop] at hfl
    have hprl : pre.length ≤ 1 := by rcases hpre with rfl | rfl <;> decide
    refine call_post (lex_spec (q := decide (ns[i] > 999)) (ds := signs (wordOf ns[i])) (pre := pre) (tail := tail) B S8.F.keep (Room.mono R (by decide)) Lx8 S8.owns (hX8 _ hpl) (fun q => ?_) hv' ?_ w1 w2 hpre fun _ => ?_) ?_
    · have nd := S8.nd
      simp only [List.cons_append, List.nil_append, List.map_cons, List.nodup_cons, List.mem_cons, not_or] at nd
      refine nd.2.1.2 ?_
      rw [← q]
      exact List.mem_map_of_mem (f := (·.1)) (List.mem_append_left _ hpl)
    · rw [List.length_append]
      have : (wr ns[i] ++ tail).length = (wrote (decide (ns[i] > 999)) (signs (wordOf ns[i])) ++ tail).length := rfl
      omega
    · rcases ht with ⟨e, _⟩ | e
      · exact .inl e
      · exact .inr ⟨_, e⟩
    rintro v h9 t9 hz9 hk9 ⟨⟨ut, rfl⟩, ln9, u9, k9, vs9, q1, q2, q3⟩
    rw [catS_signs]
    have S9 := S8.after (own' := [(dl, lexD w.params t1 t2 t3 t4 (.int ((ln9 : Nat) : Int) u9) (.ref xq) tw pl n), (lst, listOf vs9.toArray k9)]) hz9 hk9 rfl (fun p hp => by
      rcases List.mem_cons.mp hp with rfl | hp
      · exact q1
      · rcases List.mem_singleton.mp hp with rfl
        exact q2)
    refine kw1 (eGlobal S9 B (by rfl : nsIn (K w.params) mainGlobals "_law_left" = some (some (.ref 271))) ?_ (by kernel_rfl) (by kernel_rfl))
    refine ⟨⟨47, _, _, rfl, S9.F.keep _ _ (B.X _ _ (by rfl : (K w.params).lookup 47 = some (ob47 w.params))), rfl⟩, ?_⟩
    have ew : wordOf ns[i] = wAt ns i := by unfold wAt; rw [List.getD_eq_getElem?_getD, List.getElem?_eq_getElem hi9]; rfl
    have S10 : St g L m8 ([(DR, listOf rs.toArray kR)] ++ ((dl, lexD w.params t1 t2 t3 t4 (.int ((ln9 : Nat) : Int) u9) (.ref xq) tw pl n) :: (lst, listOf vs9.toArray k9) :: (X ++ own))) h9 := S9.permP (List.perm_middle (l₁ := [(dl, _), (lst, _)]) (a := (DR, listOf rs.toArray kR))).symm
    refine call_post (insort_spec (x := wordOf ns[i]) (ws := σ.map (wAt ns)) B S10.F.keep (Room.mono R (by decide)) S10.owns hrs Arr.good hA.sorted (by rw [List.length_map, hA.len]; omega) (word_good _)) ?_
    rintro v h11 t11 hz11 hk11 ⟨rfl, p, rs', kR', g1, g2, g3⟩
    have S11 := S10.after (own' := [(DR, listOf rs'.toArray kR')]) hz11 hk11 rfl (fun p hp => by
      rcases List.mem_singleton.mp hp with rfl
      exact g1)
    dsimp only
    refine wpAny_execs_nil ?_
    rw [ew] at g2 g3
    refine ⟨m8, _, h11, t11, rfl, ⟨ln9, u9, k9, vs9, kR', rs', σ.take p ++ i :: σ.drop p, if decide (ns[i] > 999) = true ∧ tail ≠ [] then [("\n" : Str)] else [], rfl, fun z hz => (mo8 z hz).trans (mz z hz), ?_, ?_, ?_, hA.ins g3⟩, ?_⟩
    · split
      · exact .inr rfl
      · exact .inl rfl
    · rcases ht with ⟨rfl, e⟩ | rfl
      · rw [if_neg (by simp), e]
        split at q3 <;> exact q3
      · cases hd : decide (ns[i] > 999) with
        | true =>
          rw [if_pos ⟨rfl, by simp⟩]
          rw [hd] at q3
          exact q3
        | false =>
          rw [if_neg (by simp)]
          rw [hd] at q3
          exact q3
    · rw [List.map_append, List.map_cons, List.map_take, List.map_drop]
      exact g2
    · refine S11.permP (List.Perm.trans List.perm_append_comm ?_)
      exact List.perm_middle (l₁ := [(dl, _), (lst, _)]) (a := (DR, listOf rs'.toArray kR'))
  · rintro m₁ news₁ h t ⟨ln', u', k', vs', kR, rs, σ, pre, rfl, mz, hpre, hv', hrs, hA⟩ S'
    dsimp only
    exact hQ _ _ ⟨rfl, m₁, ln', u', k', vs', kR, rs, σ, h, t, rfl, S', hrs, hA, mz⟩
end
section
section
variable {w : World} {mg mb : Str → Option Value} {A : Around} {E : Value → Shared → Prop} {s : Shared} {g : Heap} {L : Addr} {m : Str → Option Value} {news : List (Addr × Obj)}
/-! lists of texts compared -/
theorem strs_lay : ∀ ws : List Str, (∀ x ∈ ws, PyData.strOk x = true) → PyData.canLayAll0 (ws.map PyData.str) = true
  | [], _ => rfl
  | x :: r, h => by
    show (PyData.canLay0 (.str x) && _) = true
    rw [strs_lay r fun y hy => h y (.tail _ hy), Bool.and_true]
    exact h x (.head _)
theorem strs_depth : ∀ ws : List Str, PyData.depthAll (ws.map PyData.str) = 0
  | [] => rfl
  | x :: r => by simp [PyData.depthAll, PyData.depth, strs_depth r]
theorem strs_eqv : ∀ ns ms : List Str, PyData.eqvAll (ns.map PyData.str) (ms.map PyData.str) = decide (ns = ms)
  | [], [] => by simp [PyData.eqvAll]
  | [], _ :: _ => by simp [PyData.eqvAll]
  | _ :: _, [] => by simp [PyData.eqvAll]
  | a :: r, b :: t => by
    simp only [List.map_cons, PyData.eqvAll, PyData.eqv, strs_eqv r t]
    by_cases h : a = b <;> by_cases h' : r = t <;> simp [h, h']
theorem strs_shaped (ws : List Str) (h : ∀ x ∈ ws, PyData.strOk x = true) : SeqAt.shaped (.list (ws.map PyData.str)) = true := by
  simp [SeqAt.shaped, PyData.canLay0, PyData.depth, strs_lay ws h, strs_depth]
theorem ne_strs {a b : Addr} {xs ys : List Value} {ns ms : List Str} {Q : Value → Shared → Prop} (ha : s.heap.IsList a xs.toArray) (hb : s.heap.IsList b ys.toArray) (hi : StrsAre xs ns) (hj : StrsAre ys ms) (h1 : ∀ x ∈ ns, PyData.strOk x = true) (h2 : ∀ x ∈ ms, PyData.strOk x = true) (hu : A.units + 64 < cLine)
    (h : Q (.bool (!decide (ns = ms))) s) : wpAny (model pw w) A (compareOp .NotEq (.ref a) (.ref b)) Q E s := by
  obtain ⟨oa, a1, a2, na, a3⟩ := ha
  obtain ⟨ob, b1, b2, nb, b3⟩ := hb
  refine ne_dataH (Reads.list a1 a2 a3 (strs_readAll s.heap hi)) (Reads.list b1 b2 b3 (strs_readAll s.heap hj)) (strs_shaped ns h1) (strs_shaped ms h2) hu ?_
  have e : PyData.eqv (.list (ns.map PyData.str)) (.list (ms.map PyData.str)) = decide (ns = ms) := by
    rw [← strs_eqv]; simp [PyData.eqv]
  rw [e]; exact h
/-! sorted by _law_left -/
theorem kat_left {kS D e1 : Nat} {Fin : List Value → Nat → Shared → Prop} (R : Room A 5) (B : Base w mg mb g) : ∀ {r : List Value} {ws : List Str} {ks : List Value} {kz : List Int} {e : Nat} {s : Shared},
    St g L m ((kS, listOf ks.toArray e) :: (D, listOf ([] : List Value).toArray e1) :: news) s.heap → IntsAre ks kz → StrsAre r ws → (∀ x ∈ ws, Good x) →
    (∀ ks' e' h' t', St g L m ((kS, listOf ks'.toArray e') :: (D, listOf ([] : List Value).toArray e1) :: news) h' → IntsAre ks' (kz ++ ws.map left) → Fin ks' e' { s with heap := h', toks := t' }) →
    KatKeys pw w A.in1.in1 g L m kS (.ref 271) Fin r ks e s
  | [], ws, ks, kz, e, s, S, hk, hr, hg, fin => by
    cases hr
    refine KatKeys.nil (fin ks e s.heap s.toks S ?_)
    rw [List.map_nil, List.append_nil]; exact hk
  | v :: r, ws, ks, kz, e, s, S, hk, hr, hg, fin => by
    cases hr with
    | @cons x t _ ws hr =>
      refine KatKeys.cons ?_
      refine call_post (left_good B S.F.keep (show Room A.in1.in1 3 from R.in1.in1) (hg x (.head _))) ?_
      rintro v h2 t2 hz2 hk2 ⟨u, rfl⟩
      have S2 := S.keeps (fun b o e => hk2 b o (by simp) e)
      refine KatBack.intro S2.F S2.N (.head S2.fresh) fun h3 c F3 N3 => ?_
      refine kat_left R B (s := { s with heap := h3, toks := t2 }) (kz := kz ++ [left x]) ⟨F3, N3, S2.nd⟩ (ints_append hk (.cons _ _ .nil)) hr (fun y hy => hg y (.tail _ hy)) fun ks' e' h' t' S' hk' => ?_
      rw [List.append_assoc] at hk'
      exact fin ks' e' h' t' S' hk'
theorem getD_at {vs : List Value} {i : Nat} {v : Value} (h : vs[i]? = some v) : vs.getD i Value.none = v := by rw [List.getD_eq_getElem?_getD, h]; rfl
theorem sorted_left {l : Addr} {vs : List Value} {ws : List Str} {Q : Value → Shared → Prop} (B : Base w mg mb g) (R : Room A 5) (S : St g L m news s.heap) (hl : s.heap.IsList l vs.toArray) (hv : StrsAre vs ws) (hg : ∀ x ∈ ws, Good x) (h2 : 2 ≤ ws.length) (h64 : ws.length < 64)
    (h : ∀ D (p : Array Nat) c h' t', St g L m ((D, listOf (p.toList.map fun i => vs.getD i Value.none).toArray c) :: news) h' → Pm ws.length p ws.length → Inc (fun i => (ws.map left).getD i 0) p ws.length → Q (.ref D) { s with heap := h', toks := t' }) :
    wpAny (model pw w) A (call (.builtin "sorted") [.ref l] [("key", .ref 271)]) Q E s := by
  have hvl := strs_len hv
  refine kat_sortedK (b := false) S.F S.N hl (by omega) (by omega) (ksk_s1 _ _) (fun x => ksk_l1 _ _) (fun x => ksk_t1 _ _) fun D kS e1 h' F' N' l0 l1 => ?_
  have S' : St g L m ((kS, listOf ([] : List Value).toArray 0) :: (D, listOf ([] : List Value).toArray e1) :: news) h' := ⟨F', N', by
    rw [List.map_cons, List.map_cons, List.nodup_cons, List.nodup_cons]
    refine ⟨fun q => ?_, fun q => ?_, S.nd⟩
    · rcases List.mem_cons.mp q with q | q
      · exact absurd (show kS = D from q) (Nat.ne_of_gt l0)
      · obtain ⟨p, hp, e⟩ := List.mem_map.mp q
        exact absurd (show p.1 = kS from e) (Nat.ne_of_lt (Nat.lt_trans (l1 p hp) l0))
    · obtain ⟨p, hp, e⟩ := List.mem_map.mp q
      exact absurd (show p.1 = D from e) (Nat.ne_of_lt (l1 p hp))⟩
  refine kat_left (s := { s with heap := h' }) R B S' .nil hv hg fun ks e h3 t3 S3 hk => ?_
  rw [List.nil_append] at hk
  have hkl := hk.length
  rw [List.length_map] at hkl
  have ekk : keyKind' (List.toArray ks) = pure oneType' := ksk_kind (keys := List.toArray ks) (kz := ws.map left) hk (by rw [List.size_toArray]; omega)
  rw [ekk]
  refine wpAny_pure ?_
  rw [hvl]
  refine sort_wp (k := fun i => (ws.map left).getD i 0) (fun i j C hi hj hC => ?_) (by omega) fun p P I => ?_
  · show wpAny _ _ (keyLt' oneType' ((katRev false ks).getD i Value.none) ((katRev false ks).getD j Value.none)) C _ _
    have ei : ∀ i, i < ws.length → ∃ t, ks.getD i Value.none = .int ((ws.map left).getD i 0) t := fun i hi => by
      have hi' : i < (ws.map left).length := by rw [List.length_map]; exact hi
      obtain ⟨t, ht⟩ := hk.get i _ (List.getElem?_eq_getElem hi')
      refine ⟨t, ?_⟩
      rw [getD_at ht, List.getD_eq_getElem?_getD, List.getElem?_eq_getElem hi']; rfl
    obtain ⟨ti, ei'⟩ := ei i hi
    obtain ⟨tj, ej'⟩ := ei j hj
    show wpAny _ _ (keyLt' oneType' (ks.getD i Value.none) (ks.getD j Value.none)) C _ _
    rw [ei', ej']
    exact kat_lt_int hC
  · refine KatFin.intro S3.F S3.N (.head S3.fresh) fun h4 c4 F4 N4 => ?_
    have S4 : St g L m ((kS, listOf ([] : List Value).toArray c4) :: (D, listOf ([] : List Value).toArray e1) :: news) h4 := ⟨F4, N4, S3.nd⟩
    have S5 := S4.swap
    refine KasFin.intro S5.F S5.N (.head S5.fresh) fun h6 c6 F6 N6 => ?_
    have S6 : St g L m ((D, listOf (p.toList.map fun i => vs.getD i Value.none).toArray c6) :: (kS, listOf ([] : List Value).toArray c4) :: news) h6 := ⟨F6, N6, S5.nd⟩
    exact h D p c6 h6 t3 S6.swap.tail P I
end
end
section
variable {w : World} {mg mb : Str → Option Value} {A : Around} {s : Shared} {h₀ : Heap}
theorem lex_unique {k : Nat → Int} {a b : List Nat} (h : a.Perm b) (ha : a.Pairwise (Lex k)) (hb : b.Pairwise (Lex k)) : a = b :=
  List.Perm.eq_of_pairwise (le := Lex k) (fun x y _ _ h1 h2 => by unfold Lex at h1 h2; omega) ha hb h
theorem inc_pairwise {k : Nat → Int} {p : Array Nat} {n : Nat} (hs : p.size = n) (h : Inc k p n) : p.toList.Pairwise (Lex k) := by
  rw [List.pairwise_iff_getElem]
  intro i j hi hj hij
  rw [Array.length_toList] at hi hj
  have q := h i j hij (by omega)
  have e : ∀ t (ht : t < p.size), pAt p t = p.toList[t]'(by rw [Array.length_toList]; exact ht) := fun t ht => by
    unfold pAt
    rw [Array.getD_eq_getD_getElem?, Array.getElem?_eq_getElem ht]; rfl
  rw [e i hi, e j hj] at q
  exact q
theorem word_lay (v : Int) : PyData.strOk (wordOf v) = true := by
  have h0 := Int.fmod_nonneg_of_pos v (show (0 : Int) < 1000 by decide)
  have h1 := Int.fmod_lt_of_pos v (show (0 : Int) < 1000 by decide)
  obtain ⟨n, hn⟩ := Int.eq_ofNat_of_zero_le h0
  have hn' : n < 1000 := by omega
  unfold wordOf
  rw [hn]
  have key : ∀ n, n < 1000 → PyData.strOk (Str.ofString (toString (Int.ofNat n))) = true := by decide +kernel
  exact key n hn'
theorem strs_pick {vs : List Value} {ws : List Str} (S : StrsAre vs ws) : ∀ {σ : List Nat}, (∀ j ∈ σ, j < ws.length) → StrsAre (σ.map fun i => vs.getD i Value.none) (σ.map fun i => ws.getD i "")
  | [], _ => .nil
  | j :: r, h => by
    obtain ⟨t, ht⟩ := strs_get S j (h j (.head _))
    rw [List.map_cons, List.map_cons, getD_at ht, List.getD_eq_getElem?_getD, List.getElem?_eq_getElem (h j (.head _))]
    exact .cons _ _ (strs_pick S fun i hi => h i (.tail _ hi))
theorem seg_same {g : Heap} {L DR DW : Addr} {m : Str → Option Value} {news : List (Addr × Obj)} {oR : Obj} {rs us : List Value} {ns : List Int} {σ : List Nat} {kR kW : Nat} (B : Base w mg mb g) (R : Room A 9)
    (S : St g L m news s.heap) (hR : (L + 2, oR) ∈ news) (ho : oR.data = .cell (some (.ref DR))) (hDR : (DR, listOf rs.toArray kR) ∈ news) (hDW : (DW, listOf us.toArray kW) ∈ news) (mw : m "words" = some (.ref DW))
    (hrs : StrsAre rs (σ.map (wAt ns))) (hA : Arr ns 9 σ) (hu : StrsAre us (ns.map wordOf)) (hn : ns.length = 9) :
    wpAny (model pw w) A (exec (sN 6) (lEnv L)) (fun f s' => f = .next ∧ ∃ h' t', s' = { s with heap := h', toks := t' } ∧ St g L m news h') Bot s := by
  show wpAny _ _ (exec (.If _ _ _ _) _) _ _ _
  walk_at "m.step"
  walk_at "m.step"
  refine nCell (by rfl : (lEnv L).cells.lookup ("row" : Str) = some (L + 2)) (S.N _ hR).1 ho ?_ (by rfl) (by kernel_rfl)
  refine eCall (eBuiltin (v := .builtin "sorted") S B (by rfl) (by kernel_rfl) (by decide) ?_ (by kernel_rfl) (by kernel_rfl))
  refine callWith_val (by rfl) (by rfl) (fun a e => nomatch e) (args1 ?_)
  walk_at "m.step"
  refine kw1 (eGlobal S B (by rfl : nsIn (K w.params) mainGlobals "_law_left" = some (some (.ref 271))) ?_ (by kernel_rfl) (by kernel_rfl))
  have hwl : (ns.map wordOf).length = 9 := by rw [List.length_map, hn]
  refine sorted_left B (Room.mono R (by decide)) S ⟨_, (S.N _ hDW).1, rfl, kW, rfl⟩ hu (fun x hx => by
    obtain ⟨v, _, rfl⟩ := List.mem_map.mp hx
    exact word_good v) (by omega) (by omega) fun D p c h' t' S' P I => ?_
  rw [hwl] at P I
  have ek : ∀ j, j < 9 → ((ns.map wordOf).map left).getD j 0 = keyOf ns j := fun j hj => by
    unfold keyOf
    have h1 : j < ns.length := by omega
    rw [List.getD_eq_getElem?_getD, List.getElem?_map, List.getElem?_map, List.getD_eq_getElem?_getD, List.getElem?_eq_getElem h1]; rfl
  have I' : Inc (keyOf ns) p 9 := fun i j hij hj => by
    have q := I i j hij hj
    have a1 := P.lt (show i < 9 by omega)
    have a2 := P.lt hj
    unfold Lex at q ⊢
    dsimp only at q
    rw [ek _ a1, ek _ a2] at q
    exact q
  have e1 : p.toList = σ := lex_unique (P.perm.trans hA.perm.symm) (inc_pairwise P.size I') hA.ord
  have e2 : (σ.map fun i => (ns.map wordOf).getD i "") = σ.map (wAt ns) := List.map_congr_left fun j hj => by
    have h1 : j < ns.length := by have := hA.lt hj; omega
    unfold wAt
    rw [List.getD_eq_getElem?_getD, List.getElem?_map, List.getD_eq_getElem?_getD, List.getElem?_eq_getElem h1]; rfl
  have hs := strs_pick hu (σ := σ) (fun j hj => by rw [hwl]; exact hA.lt hj)
  rw [e2] at hs
  rw [e1] at S'
  have hlay : ∀ x ∈ σ.map (wAt ns), PyData.strOk x = true := fun x hx => by
    obtain ⟨j, _, rfl⟩ := List.mem_map.mp hx
    exact word_lay _
  have hS' := S'.tail
  refine ne_strs ⟨_, (hS'.N _ hDR).1, rfl, kR, rfl⟩ ⟨_, S'.getHead, rfl, c, rfl⟩ hrs hs hlay hlay (by have := R.units; show A.units + 64 < cLine; omega) ?_
  rw [decide_eq_true rfl]
  walk_at "m.step"
  rw [if_neg (by decide)]
  refine wpAny_execs_nil ?_
  exact ⟨rfl, h', t', rfl, hS'⟩
end
section
variable {w : World} {mg mb : Str → Option Value} {A : Around} {s : Shared} {h₀ : Heap}
def cnt (ws : List Str) (x : Int) : Nat := ws.countP fun y => left y == x
theorem atR_atL {ws : List Str} {x : Int} {i j : Nat} (hr : AtR ws x i) (hl : AtL ws x j) : (i : Int) - (j : Int) = (cnt ws x : Int) := by
  have hij : j ≤ i := by
    rcases Nat.lt_or_ge i j with q | q
    · have h1 : i < ws.length := Nat.lt_of_lt_of_le q hl.le
      have a := hr.above i h1 (Nat.le_refl _)
      have b := hl.below i h1 q
      omega
    · exact q
  have hi := hr.le
  have e : ws = ws.take j ++ ((ws.drop j).take (i - j) ++ ws.drop i) := by
    have e1 : ws.drop i = (ws.drop j).drop (i - j) := by rw [List.drop_drop]; congr 1; omega
    rw [e1, List.take_append_drop, List.take_append_drop]
  have c1 : (ws.take j).countP (fun y => left y == x) = 0 := by
    rw [List.countP_eq_zero]
    intro a ha
    obtain ⟨t, ht, rfl⟩ := List.getElem_of_mem ha
    rw [List.length_take] at ht
    rw [List.getElem_take]
    have := hl.below t (by omega) (by omega)
    simp; omega
  have c3 : (ws.drop i).countP (fun y => left y == x) = 0 := by
    rw [List.countP_eq_zero]
    intro a ha
    obtain ⟨t, ht, rfl⟩ := List.getElem_of_mem ha
    rw [List.length_drop] at ht
    rw [List.getElem_drop]
    have := hr.above (i + t) (by omega) (by omega)
    simp; omega
  have c2 : ((ws.drop j).take (i - j)).countP (fun y => left y == x) = i - j := by
    have hlen : ((ws.drop j).take (i - j)).length = i - j := by rw [List.length_take, List.length_drop]; omega
    have : ((ws.drop j).take (i - j)).countP (fun y => left y == x) = ((ws.drop j).take (i - j)).length := by
      rw [List.countP_eq_length]
      intro a ha
      obtain ⟨t, ht, rfl⟩ := List.getElem_of_mem ha
      rw [hlen] at ht
      rw [List.getElem_take, List.getElem_drop]
      have a1 := hr.below (j + t) (by omega) (by omega)
      have a2 := hl.above (j + t) (by omega) (by omega)
      simp; omega
    rw [this, hlen]
  have : cnt ws x = i - j := by
    unfold cnt
    rw [e, List.countP_append, List.countP_append, c1, c2, c3]; omega
  rw [this]; omega
theorem seg_counts {g : Heap} {L DR : Addr} {m : Str → Option Value} {news : List (Addr × Obj)} {oR : Obj} {rs : List Value} {ws : List Str} {kR : Nat} (B : Base w mg mb g) (R : Room A 9)
    (S : St g L m news s.heap) (hR : (L + 2, oR) ∈ news) (ho : oR.data = .cell (some (.ref DR))) (hDR : (DR, listOf rs.toArray kR) ∈ news)
    (hrs : StrsAre rs ws) (hg : ∀ x ∈ ws, Good x) (hs : ws.Pairwise fun a b => left a ≤ left b) (hn : ws.length ≤ 100) :
    wpAny (model pw w) A (exec (sN 7) (lEnv L)) (fun f s' => f = .next ∧ ∃ DC cs k h' t', s' = { s with heap := h', toks := t' } ∧ St g L (fun z => if z = "counts" then some (.ref DC) else m z) ((DC, listOf cs.toArray k) :: news) h' ∧ IntsAre cs ((List.range 5).map fun r => (cnt ws (r : Nat) : Int))) Bot s := by
  refine wpQ fun QQ hQ => ?_
  refine aListComp (L := L) (m := m) (cl := [("row", L + 2)]) B rfl (by rfl) (by rfl) (by decide +kernel) (by rfl) (by decide +kernel) (by kernel_rfl) (by rfl) ?_
  refine eCall (eBuiltin (v := .type "range") S B (by rfl) (by kernel_rfl) (by decide) ?_ (by kernel_rfl) (by kernel_rfl))
  refine callWith_val (by rfl) (by rfl) (fun a e => nomatch e) (args1 ?_)
  walk_at "m.step"
  refine kw0 (call_range_St (n := 5) S fun r ta tb tc h10 t10 S10 => ?_)
  refine cut _ (iter_range (n := 5) (a := 0) R.handled S10 (t := ta) (u := tb) (v := tc) (by rw [Int.zero_add]; exact S10.getHead) (by decide +kernel)) fun it s₂ F => ⟨_, _, _, _, (fun i ys => IntsAre ys.toList ((List.range i).map fun r => (cnt ws (r : Nat) : Int))), F, ?_, ?_, ?_, ?_⟩
  · decide
  · exact .nil
  · rintro g' C D' i v own m₁ ys k h t B' hg' hi' ⟨tv, rfl⟩ hJ S'
    rw [Int.zero_add]
    have hcell : g'.get? (L + 2) = some oR := hg' _ _ (S10.N _ (.tail _ hR)).1
    have hrow : g'.get? DR = some (listOf rs.toArray kR) := hg' _ _ (S10.N _ (.tail _ hDR)).1
    refine aName (env := compEnvC _ [("row", L + 2)] C (lEnv L)) S' (fun h8 S8 => ?_) (by rfl) (by kernel_rfl)
    refine wpAny_tests_nil ?_
    rw [if_pos rfl]
    walk_at "m.step"
    refine eCall (nGlobal S8 B' (by rfl : nsIn (K w.params) mainGlobals "bisect_right" = some (some (.ref 56))) ?_ (by rfl) (by rfl) (by kernel_rfl))
    refine callWith_fn (by rfl) (by rfl) (args2 ?_)
    refine nCell (by rfl : ([(("row" : Str), L + 2)] : List (Str × Addr)).lookup ("row" : Str) = some (L + 2)) (S8.F.keep _ _ hcell) ho ?_ (by rfl) (by kernel_rfl)
    refine nLocal S8 (by walk_at "m.look") ?_ (by rfl) (by kernel_rfl)
    refine kw1 (nGlobal S8 B' (by rfl : nsIn (K w.params) mainGlobals "_law_left" = some (some (.ref 271))) ?_ (by rfl) (by rfl) (by kernel_rfl))
    refine ⟨⟨56, _, _, rfl, S8.F.keep _ _ (B'.X _ _ (by rfl : (K w.params).lookup 56 = some (ob56 w.params))), rfl⟩, ?_⟩
    refine call_post (br_spec (l := DR) (x := (i : Nat)) (t := tv) (t1 := 304) B' S8.F.keep (Room.mono R (by decide)) ⟨rs, ⟨_, S8.F.keep _ _ hrow, rfl, kR, rfl⟩, hrs⟩ hg hs hn (binds_K (B'.X.keeps S8.F.keep) rfl (by rfl : (K w.params).lookup 48 = some (ob48 w.params)) rfl rfl rfl)) ?_
    rintro v h9 t9 hz9 hk9 ⟨iR, u9, rfl, hiR⟩
    have S9 := S8.keeps (fun b o e => hk9 b o (by simp) e)
    refine eCall (nGlobal S9 B' (by rfl : nsIn (K w.params) mainGlobals "bisect_left" = some (some (.ref 65))) ?_ (by rfl) (by rfl) (by kernel_rfl))
    refine callWith_fn (by rfl) (by rfl) (args2 ?_)
    refine nCell (by rfl : ([(("row" : Str), L + 2)] : List (Str × Addr)).lookup ("row" : Str) = some (L + 2)) (S9.F.keep _ _ hcell) ho ?_ (by rfl) (by kernel_rfl)
    refine nLocal S9 (by walk_at "m.look") ?_ (by rfl) (by kernel_rfl)
    refine kw1 (nGlobal S9 B' (by rfl : nsIn (K w.params) mainGlobals "_law_left" = some (some (.ref 271))) ?_ (by rfl) (by rfl) (by kernel_rfl))
    refine ⟨⟨65, _, _, rfl, S9.F.keep _ _ (B'.X _ _ (by rfl : (K w.params).lookup 65 = some (ob65 w.params))), rfl⟩, ?_⟩
    refine call_post (bl_spec (l := DR) (x := (i : Nat)) (t := tv) (t1 := 318) B' S9.F.keep (Room.mono R (by decide)) ⟨rs, ⟨_, S9.F.keep _ _ hrow, rfl, kR, rfl⟩, hrs⟩ hg hs hn (binds_K (B'.X.keeps S9.F.keep) rfl (by rfl : (K w.params).lookup 57 = some (ob57 w.params)) rfl rfl rfl)) ?_
    rintro v h11 t11 hz11 hk11 ⟨iL, u11, rfl, hiL⟩
    have S11 := S9.keeps (fun b o e => hk11 b o (by simp) e)
    refine sub_int ?_
    rw [atR_atL hiR hiL]
    refine ⟨_, h11, _, rfl, S11, ?_⟩
    show IntsAre _ _
    rw [Array.toList_push, List.range_succ, List.map_append]
    exact ints_append hJ (.cons _ _ .nil)
  · intro DC ys k h t S' hJ
    have hJ : IntsAre _ _ := hJ
    refine hQ _ _ ⟨rfl, DC, ys.toList, k, h, _, rfl, ?_, hJ⟩
    rw [Array.toArray_toList]
    exact (St.swap S').tail
end
section
section
variable {w : World} {A : Around} {E : Value → Shared → Prop} {s : Shared} {env : Env} {pos : Pos} {g₀ : Heap} {L : Addr} {m mg mb : Str → Option Value} {news : List (Addr × Obj)}
/-- a frame is opened above what stands, the iterator's objects in its own ledger -/
theorem frame_open {wr : List Addr} {h h₁ : Heap} {C : Addr} {m₀ : Str → Option Value} {l : List (Addr × Obj)} (S : St g₀ L m (ownOf h wr ++ news) h) (ex : ∀ b ∈ wr, ∃ o, h.get? b = some o) (sub : Sub h h₁) (ns : h₁.Ns C m₀) (hC : h.objs.size ≤ C)
    (hl : ∀ p ∈ l, h₁.get? p.1 = some p.2 ∧ h.objs.size ≤ p.1 ∧ p.1 ≠ C) (nd : (l.map (·.1)).Nodup) :
    St (hideAll h wr) C m₀ (l ++ ownOf h₁ wr) h₁ ∧ Sub g₀ (hideAll h wr) ∧ ∀ b o, b ∉ wr → h.get? b = some o → (hideAll h wr).get? b = some o := by
  have hwr : ∀ b ∈ wr, b < h.objs.size := fun b hb => let ⟨o, ho⟩ := ex b hb; Heap.lt_size ho
  have gn : ∀ b, h.objs.size ≤ b → (hideAll h wr).get? b = none := fun b hb => Heap.get?_none_of_le (by rw [hideAll_size]; exact hb)
  have hwn : wr.Nodup := by
    have := S.nd
    rw [List.map_append, List.nodup_append, ownOf_map] at this
    exact this.1
  have ex1 : ∀ b ∈ wr, ∃ o, h₁.get? b = some o := fun b hb => let ⟨o, ho⟩ := ex b hb; ⟨o, sub _ _ ho⟩
  refine ⟨⟨⟨ns, fun b o e => sub b o (of_hideAll _ e), by rw [hideAll_size]; exact hC⟩, fun p hp => ?_, ?_⟩, fun b o e => ?_, fun b o nb e => hideAll_get _ e nb⟩
  · rcases List.mem_append.mp hp with hp | hp
    · exact ⟨(hl p hp).1, (hl p hp).2.2, gn _ (hl p hp).2.1⟩
    · obtain ⟨hb, e⟩ := ownOf_mem hp
      exact ⟨ownOf_at ex1 p hp, fun q => Nat.lt_irrefl _ (Nat.lt_of_lt_of_le (show C < _ from (show p.1 = C from q) ▸ hwr _ hb) hC), hideAll_none _ hb⟩
  · rw [List.map_append, ownOf_map, List.nodup_append]
    refine ⟨nd, hwn, fun a ha b hb e => ?_⟩
    obtain ⟨p, hp, rfl⟩ := List.mem_map.mp ha
    have h1 := (hl p hp).2.1
    have h2 := hwr b hb
    have e' : p.1 = b := e
    exact absurd (show p.1 < h.objs.size from e' ▸ h2) (Nat.not_lt.mpr h1)
  · refine hideAll_get _ (S.F.keep b o e) fun q => ?_
    have := (S.N _ (List.mem_append_left _ (mem_ownOf (h := h) q))).2.2
    rw [show g₀.get? b = none from this] at e; cases e
/-- and closed -/
theorem frame_close {wr : List Addr} {h h' : Heap} {C : Addr} {m₁ : Str → Option Value} {l : List (Addr × Obj)} (S : St g₀ L m (ownOf h wr ++ news) h) (S' : St (hideAll h wr) C m₁ l h') (hC : h.objs.size ≤ C) (hl : ∀ p ∈ l, h.objs.size ≤ p.1) :
    ∃ oC, (∀ h'' : Heap, h''.get? C = some oC → ∃ mC, h''.Ns C mC) ∧ St g₀ L m ((C, oC) :: (l ++ news)) h' := by
  obtain ⟨oC, es, ep, hoC, rC⟩ := id S'.F.ns
  have hgs : ∀ b o, b ∉ wr → h.get? b = some o → (hideAll h wr).get? b = some o := fun b o nb e => hideAll_get _ e nb
  have S4 : St g₀ L m news h' := S.drops fun b o nb e => S'.F.keep _ _ (hgs b o nb e)
  have S5 : St g₀ L m (l ++ news) h' := S.right.madeAll S4 rfl ⟨fun p hp => ⟨(S'.N p hp).1, Heap.get?_none_of_le (hl p hp)⟩, S'.nd⟩
  refine ⟨oC, fun h'' e => ⟨_, oC, es, ep, e, rC⟩, ?_⟩
  have S6 : St g₀ L m ((C, oC) :: l ++ news) h' := S.right.madeAll S4 rfl ⟨fun p hp => ?_, ?_⟩
  · exact S6
  · rcases List.mem_cons.mp hp with rfl | hp
    · exact ⟨hoC, Heap.get?_none_of_le hC⟩
    · exact ⟨(S'.N p hp).1, Heap.get?_none_of_le (hl p hp)⟩
  · rw [List.map_cons, List.nodup_cons]
    refine ⟨fun q => ?_, S'.nd⟩
    obtain ⟨p, hp, e⟩ := List.mem_map.mp q
    exact (S'.N p hp).2.1 e
/-- the iterator's objects stay as they are while a turn runs -/
theorem frame_turn {target : Expr} {I : Addr} {fp wr : List Addr} {n i : Nat} {P Md : Nat → Value → Heap → Prop} {Sx : Nat → Heap → Prop} {h h2 h' : Heap} {C : Addr} {m₁ m₂ : Str → Option Value} {l l' : List (Addr × Obj)} (W : Feed w A target I fp wr n P Md Sx)
    (hsrc : ∀ b ∈ fp, b ∉ wr → ∃ o, h.get? b = some o) (S2 : St (hideAll h wr) C m₁ (l ++ ownOf h2 wr) h2) (hx2 : Sx (i + 1) h2) (S' : St (hideAll h wr) C m₂ (l' ++ ownOf h2 wr) h') : St (hideAll h wr) C m₂ (l' ++ ownOf h' wr) h' ∧ Sx (i + 1) h' := by
  have eo := ownOf_same (S'.permP List.perm_append_comm)
  refine ⟨eo ▸ S', W.turns.frame _ _ _ hx2 fun b hb o ho => ?_⟩
  by_cases hw : b ∈ wr
  · have q := (S'.N _ (List.mem_append_right _ (mem_ownOf (h := h2) hw))).1
    rw [show h'.get? b = some ((h2.get? b).getD default) from q, ho]; rfl
  · obtain ⟨o', ho'⟩ := hsrc b hb hw
    rw [S2.F.keep _ _ (hideAll_get _ ho' hw)] at ho
    rw [S'.F.keep _ _ (hideAll_get _ ho' hw), ho]
abbrev cellNew : Obj := { cls := .type "cell", data := .cell none }
theorem newEnv1 {scope : Scope} {globals : Addr} {cl : List (Str × Addr)} {qual : Str} {cx : Str} {Q : Env → Shared → Prop} (hcell : ∀ n acc, cellsFrom n scope.names acc = (cx, n) :: acc) (hpush : ∀ h : Heap, pushCells h scope.names = h.push cellNew)
    (h : Q (newEnv scope s.heap.objs.size globals ((cx, s.heap.objs.size + 1) :: cl) qual none .none (some env) builtinsNs) { s with heap := (s.heap.push { cls := .type "dict", data := .dict #[] }).push cellNew }) :
    wpAny (model pw w) A (newFunctionEnv scope globals cl [] qual none .none (some env)) Q E s := by
  simp only [newFunctionEnv, Option.isSome_some, if_true]
  refine wpAny_bind (wpAny_alloc ?_)
  refine wpAny_bind (wpAny_layCells _ (fun name kind cells => by cases hkc : kind == NameKind.cell <;> simp [hkc]) _ _ _ _ ?_)
  rw [hcell, hpush, show ({ s with heap := s.heap.push { cls := .type "dict", data := .dict #[] } } : Shared).heap.objs.size = s.heap.objs.size + 1 from Heap.size_push ..]
  rw [List.forIn_nil]
  exact wpAny_bind (wpAny_pure (wpAny_pure h))
theorem two_nodup {z : Nat} : [z + 1 + 1, z].Nodup := by
  rw [List.nodup_cons]
  exact ⟨fun q => by rw [List.mem_singleton] at q; omega, by simp⟩
/-- one turn of a comprehension with a cell of its own -/
def CompTurn1 (w : World) (mg mb : Str → Option Value) (A : Around) (env : Env) (scope : Scope) (cx : Str) (cl : List (Str × Addr)) (target : Expr) (ifs : List Expr) (elt : Expr) (n : Nat) (P : Nat → Value → Heap → Prop) (J : Nat → Array Value → Prop) (s : Shared) : Prop :=
  ∀ g C D cX oX i v own m₁ ys k h t, Base w mg mb g → Sub s.heap g → i < n → P i v h → J i ys → (∃ c, oX.data = .cell c) → St g C m₁ ((cX, oX) :: (D, listOf ys k) :: own) h →
      wpAny (model pw w) A (assign target (compEnvC scope ((cx, cX) :: cl) C env) v) (fun _ s₂ => wpAny (model pw w) A (Tests ifs (compEnvC scope ((cx, cX) :: cl) C env)) (fun ok s₃ =>
        if ok = true then wpAny (model pw w) A (eval elt (compEnvC scope ((cx, cX) :: cl) C env)) (fun y s₄ => ∃ m₂ oX' h' t', s₄ = { s with heap := h', toks := t' } ∧ (∃ c, oX'.data = .cell c) ∧ St g C m₂ ((cX, oX') :: (D, listOf ys k) :: own) h' ∧ J (i + 1) (ys.push y)) Bot s₃
        else ∃ m₂ oX' h' t', s₃ = { s with heap := h', toks := t' } ∧ (∃ c, oX'.data = .cell c) ∧ St g C m₂ ((cX, oX') :: (D, listOf ys k) :: own) h' ∧ J (i + 1) ys) Bot s₂) Bot { s with heap := h, toks := t }
theorem fed_block1 {elt target iter : Expr} {ifs : List Expr} {scope : Scope} {cl : List (Str × Addr)} {cx : Str} {it : Value} {n : Nat} {P : Nat → Value → Heap → Prop} {J : Nat → Array Value → Prop} {RR : Value → Addr → Result → Shared → Prop} {s₀ s₂ : Shared}
    (F : Fed w A target n P g₀ L m news s₀ it s₂) (B : Base w mg mb g₀) (hcell : ∀ n acc, cellsFrom n scope.names acc = (cx, n) :: acc) (hpush : ∀ h : Heap, pushCells h scope.names = h.push cellNew) (J0 : J 0 #[]) (hn : n ≤ 1000) (T : CompTurn1 w mg mb A env scope cx cl target ifs elt n P J s₀)
    (fin : ∀ D C oC ys k h t, (∀ h' : Heap, h'.get? C = some oC → ∃ mC, h'.Ns C mC) → St g₀ L m ((C, oC) :: (D, listOf ys k) :: news) h → J n ys → RR (.ref D) C (.ok .next) { s₀ with heap := h, toks := t }) :
    wpAny (model pw w) A (newList []) (fun acc s₃ => wpAny (model pw w) A (newFunctionEnv scope env.globals cl [] env.qual none .none (some env)) (fun cenv s₄ =>
      codeAny (model pw w) A (.compStart (.ListComp elt [⟨target, iter, ifs, 0⟩] scope pos) 0 it acc { cenv with scope := relabel scope env }) (RR acc cenv.locals) s₄) E s₃) E s₂ := by
  obtain ⟨I, fp, wr, Md, Sx, h0, t0, rfl, rfl, W, hst, S, hk0, hw0, hs0⟩ := F
  have hsrc : ∀ b ∈ fp, b ∉ wr → ∃ o, h0.get? b = some o := fun b hb nb => let ⟨o, ho⟩ := hs0 b hb nb; ⟨o, hk0 _ _ ho⟩
  refine wpAny_newList ?_ (by decide)
  refine newEnv1 hcell hpush ?_
  dsimp only
  have e1 : (h0.push (listOf ([] : List Value).toArray 0)).objs.size = h0.objs.size + 1 := Heap.size_push ..
  have e2 : ((h0.push (listOf ([] : List Value).toArray 0)).push { cls := .type "dict", data := .dict #[] }).objs.size = h0.objs.size + 1 + 1 := by rw [Heap.size_push, e1]
  have k1 : Sub h0 (((h0.push (listOf ([] : List Value).toArray 0)).push { cls := .type "dict", data := .dict #[] }).push cellNew) := fun b o e => Heap.get?_push_of_some _ (Heap.get?_push_of_some _ (Heap.get?_push_of_some _ e))
  have q1 : (((h0.push (listOf ([] : List Value).toArray 0)).push { cls := .type "dict", data := .dict #[] }).push cellNew).get? h0.objs.size = some (listOf #[] 0) := Heap.get?_push_of_some _ (Heap.get?_push_of_some _ (Heap.get?_push_size _ rfl))
  have q2 : (((h0.push (listOf ([] : List Value).toArray 0)).push { cls := .type "dict", data := .dict #[] }).push cellNew).get? (h0.objs.size + 1 + 1) = some cellNew := by rw [← e2]; exact Heap.get?_push_size _ rfl
  have q3 : (((h0.push (listOf ([] : List Value).toArray 0)).push { cls := .type "dict", data := .dict #[] }).push cellNew).Ns (h0.objs.size + 1) fun _ => none := by
    have := Heap.Ns.new (h0.push (listOf ([] : List Value).toArray 0)) (.type "dict")
    rw [e1] at this
    exact this.keeps fun b o e => Heap.get?_push_of_some _ e
  rw [show (h0.push { cls := .type "list", data := .seq ([] : List Value).toArray }).objs.size = h0.objs.size + 1 from e1]
  show codeAny _ _ _ _ { s₀ with heap := ((h0.push (listOf ([] : List Value).toArray 0)).push { cls := .type "dict", data := .dict #[] }).push cellNew, toks := t0 }
  generalize ((h0.push (listOf ([] : List Value).toArray 0)).push { cls := .type "dict", data := .dict #[] }).push cellNew = h₁ at k1 q1 q2 q3 ⊢
  obtain ⟨Sg, hsub, hgs⟩ := frame_open (l := [(h0.objs.size + 1 + 1, cellNew), (h0.objs.size, listOf #[] 0)]) S (W.ex _ _ hst) k1 q3 (by omega) (fun p hp => by
    rcases List.mem_cons.mp hp with rfl | hp
    · exact ⟨q2, by show _ ≤ h0.objs.size + 1 + 1; omega, by show h0.objs.size + 1 + 1 ≠ _; omega⟩
    · rcases List.mem_singleton.mp hp with rfl
      exact ⟨q1, Nat.le_refl _, by show h0.objs.size ≠ _; omega⟩) two_nodup
  have Bg := B.keeps hsub
  have hx1 : Sx 0 h₁ := W.turns.frame _ _ _ hst fun b hb o e => k1 b o e
  have loop : ∀ s₃ : Shared, s₃ = { s₀ with heap := h₁, toks := t0 } →
      codeAny (model pw w) A (.compLoop (.ListComp elt [⟨target, iter, ifs, 0⟩] scope pos) 0 (.ref I) (.ref h0.objs.size) (compEnvC scope ((cx, h0.objs.size + 1 + 1) :: cl) (h0.objs.size + 1) env)) (RR (.ref h0.objs.size) (h0.objs.size + 1)) s₃ := by
    rintro s₃ rfl
    refine codeAny_compLoopG (env := compEnvC scope ((cx, h0.objs.size + 1 + 1) :: cl) (h0.objs.size + 1) env)
      (fun q s' => ∃ i m₁ ys k h t oX, q = n - i ∧ i ≤ n ∧ ys.size ≤ i ∧ s' = { s₀ with heap := h, toks := t } ∧ J i ys ∧ (∃ c, oX.data = .cell c) ∧ St (hideAll h0 wr) (h0.objs.size + 1) m₁ ([(h0.objs.size + 1 + 1, oX), (h0.objs.size, listOf ys k)] ++ ownOf h wr) h ∧ Sx i h)
      ?_ n ⟨0, _, #[], 0, h₁, _, _, rfl, Nat.zero_le _, Nat.le_refl _, rfl, J0, ⟨_, rfl⟩, Sg, hx1⟩
    rintro q s' ⟨i, m₁, ys, k, h, t, oX, rfl, hi, hys, rfl, hJ, hoX, S1, hx⟩
    by_cases hlt : i < n
    · refine W.turns.item i _ _ _ hlt hx fun v h1 t1 hMd kk1 => ?_
      refine W.turns.go i v _ _ _ hMd fun h2 hP hx2 kk2 => ?_
      have S2 : St (hideAll h0 wr) (h0.objs.size + 1) m₁ ([(h0.objs.size + 1 + 1, oX), (h0.objs.size, listOf ys k)] ++ ownOf h2 wr) h2 := (St.change (S1.permP List.perm_append_comm) (by rw [ownOf_map, ownOf_map]) (fun b o nb e => by
        rw [ownOf_map] at nb
        exact kk2 b o nb (kk1 b o nb e)) (ownOf_at (W.ex _ _ hx2))).permP List.perm_append_comm
      refine cut _ (T _ (h0.objs.size + 1) h0.objs.size (h0.objs.size + 1 + 1) oX i v _ m₁ ys k h2 t1 Bg (fun b o e => hgs b o (fun q => by rw [hw0 b q] at e; cases e) (hk0 b o e)) hlt hP hJ hoX S2) fun _ s₂ h₂ => cut _ h₂ fun ok s₃ h₃ => ?_
      cases ok with
      | false =>
        obtain ⟨m₂, oX', h', t', rfl, hoX', S', hJ'⟩ := h₃
        obtain ⟨S'', hx'⟩ := frame_turn (l' := [(h0.objs.size + 1 + 1, oX'), (h0.objs.size, listOf ys k)]) W hsrc S2 hx2 S'
        exact ⟨n - (i + 1), by omega, i + 1, m₂, ys, k, h', t', oX', rfl, hlt, Nat.le_succ_of_le hys, rfl, hJ', hoX', S'', hx'⟩
      | true =>
        refine cut _ h₃ ?_
        rintro y s₄ ⟨m₂, oX', h', t', rfl, hoX', S', hJ'⟩
        refine eAppend S'.swap (fun h'' S'' => ?_) (by simp [sizeLine]; omega)
        obtain ⟨S''', hx'⟩ := frame_turn (l' := [(h0.objs.size + 1 + 1, oX'), (h0.objs.size, listOf (ys.push y) (k + 1))]) W hsrc S2 hx2 S''.swap
        exact ⟨n - (i + 1), by omega, i + 1, m₂, ys.push y, k + 1, h'', t', oX', rfl, hlt, by rw [Array.size_push]; omega, rfl, hJ', hoX', S''', hx'⟩
    · have e : i = n := by omega
      subst e
      refine W.turns.done _ _ _ hx fun h' t' k' => ?_
      have S3 := St.drops (S1.permP List.perm_append_comm) k'
      obtain ⟨oC, hoC, S4⟩ := frame_close (l := [(h0.objs.size, listOf ys k)]) S S3.tail (by omega) (fun p hp => by
        rcases List.mem_singleton.mp hp with rfl
        exact Nat.le_refl _)
      exact fin h0.objs.size (h0.objs.size + 1) oC ys k h' t' hoC S4 hJ
  exact codeAny_compStart_list (loop _ rfl) (W.self 0 _ _ _ hx1 (loop _ rfl))
theorem eListComp1 {elt target iter : Expr} {ifs : List Expr} {scope : Scope} {cl : List (Str × Addr)} {cx : Str} {Q : Value → Shared → Prop} (B : Base w mg mb g₀)
    (hclos : closureFor scope env = pure cl) (hcell : ∀ n acc, cellsFrom n scope.names acc = (cx, n) :: acc) (hpush : ∀ h : Heap, pushCells h scope.names = h.push cellNew) (hkind : scope.kind = .function) (hnames : ∀ y ∈ scope.names, y.2 = .local → scope.names.lookup y.1 = some .local)
    (h : wpAny (model pw w) A (eval iter env) (fun x s₁ => wpAny (model pw w) A (pyIter x) (fun it s₂ => ∃ s₀ n P news J, Fed w A target n P g₀ L m news s₀ it s₂ ∧ n ≤ 1000 ∧ J 0 #[] ∧ CompTurn1 w mg mb A env scope cx cl target ifs elt n P J s₀ ∧
      (∀ D ys k h t, St g₀ L m ((D, listOf ys k) :: news) h → J n ys → Q (.ref D) { s₀ with heap := h, toks := t })) Bot s₁) Bot s)
    (hs : ∀ x, foldedSetIterable iter env x = pure x := by intro _; rfl) :
    wpAny (model pw w) A (eval (.ListComp elt [⟨target, iter, ifs, 0⟩] scope pos) env) Q E s := by
  rw [eval_ListComp]
  refine bot (wpAny_comprehension_free (use := none) rfl hs hclos hkind hnames (cut _ h fun x s₁ h₁ => cut _ h₁ fun it s₂ h₂ => ?_))
  obtain ⟨s₀, n, P, news, J, F, hn, J0, T, fin⟩ := h₂
  refine fed_block1 (RR := fun acc C => compPost (model pw w) A Bot none Q acc C) F B hcell hpush J0 hn T fun D C oC ys k h t hC S hJ => ?_
  obtain ⟨mC, hCn⟩ := hC h S.getHead
  exact ⟨mC, hCn, fun h' hs' => fin D ys k h' t (S.off hs'.extBut) hJ⟩
end
end
section
variable {w : World} {mg mb : Str → Option Value} {A : Around} {s : Shared} {h₀ : Heap}
theorem aCell {E : Value → Shared → Prop} {g : Heap} {L c : Addr} {m : Str → Option Value} {news : List (Addr × Obj)} {env : Env} {x : Str} {px : Pos} {v : Value} {o : Obj} {v₀ : Option Value} {Q : Unit → Shared → Prop} (S : St g L m ((c, o) :: news) s.heap) (hd : o.data = .cell v₀) (hc : env.cells.lookup x = some c)
    (h : ∀ h' o', St g L m ((c, o') :: news) h' → o'.data = .cell (some v) → Q () { s with heap := h' }) (hk : env.scope.kind = .function) (hx : env.kindOf x = some .cell) : wpAny (model pw w) A (assign (.Name x px) env v) Q E s := by
  refine wpAny_assign_Name (wpAny_storeName_cell hk hx hc ⟨o, S.getHead, hd⟩ fun h' hv hs => ?_)
  obtain ⟨o', ho', hd'⟩ := hv
  exact h h' o' (S.setHead hs ho') hd'
def cntN (ns : List Int) (r : Int) : Nat := ns.countP fun x => x.fmod 5 == r
theorem seg_check {g : Heap} {L D DC : Addr} {m : Str → Option Value} {news : List (Addr × Obj)} {oN : Obj} {vs cs : List Value} {ns : List Int} {ws : List Str} {kD kC : Nat} (B : Base w mg mb g) (R : Room A 9)
    (S : St g L m ((DC, listOf cs.toArray kC) :: news) s.heap) (hN : (L + 1, oN) ∈ news) (ho : oN.data = .cell (some (.ref D))) (hD : (D, listOf vs.toArray kD) ∈ news) (mc : m "counts" = some (.ref DC))
    (hi : IntsAre vs ns) (hn : ns.length = 9) (hcs : IntsAre cs ((List.range 5).map fun r => (cnt ws (r : Nat) : Int))) (heq : ∀ r : Nat, r < 5 → cnt ws (r : Nat) = cntN ns (r : Nat)) :
    wpAny (model pw w) A (exec (sN 8) (lEnv L)) (fun f s' => f = .next ∧ ∃ h' t', s' = { s with heap := h', toks := t' } ∧ St g L m ((DC, listOf cs.toArray kC) :: news) h') Bot s := by
  refine wpQ fun QQ hQ => ?_
  show wpAny _ _ (exec (.If _ _ _ _) _) _ _ _
  walk_at "m.step"
  walk_at "m.step"
  walk_at "m.step"
  refine eListComp1 (L := L) (m := m) (cl := [("numbers", L + 1)]) (cx := "rest") B (by rfl) (fun n acc => by rfl) (fun h => by rfl) (by rfl) (by decide +kernel) ?_
  refine eCall (eBuiltin (v := .type "range") S B (by rfl) (by kernel_rfl) (by decide) ?_ (by kernel_rfl) (by kernel_rfl))
  refine callWith_val (by rfl) (by rfl) (fun a e => nomatch e) (args1 ?_)
  walk_at "m.step"
  refine kw0 (call_range_St (n := 5) S fun r ta tb tc h10 t10 S10 => ?_)
  refine cut _ (iter_range (n := 5) (a := 0) R.handled S10 (t := ta) (u := tb) (v := tc) (by rw [Int.zero_add]; exact S10.getHead) (by decide +kernel)) fun it s₂ F => ⟨_, _, _, _, (fun i ys => IntsAre ys.toList ((List.range i).map fun r => (cntN ns (r : Nat) : Int))), F, ?_, ?_, ?_, ?_⟩
  · decide
  · exact .nil
  · rintro g' C D' cX oX i v own m₁ ys k h t B' hg' hi' ⟨tv, rfl⟩ hJ ⟨cc, hoX⟩ S'
    rw [Int.zero_add]
    have hcell : g'.get? (L + 1) = some oN := hg' _ _ (S10.N _ (.tail _ (.tail _ hN))).1
    have hnum : g'.get? D = some (listOf vs.toArray kD) := hg' _ _ (S10.N _ (.tail _ (.tail _ hD))).1
    refine aCell (env := compEnvC _ [("rest", cX), ("numbers", L + 1)] C (lEnv L)) S' hoX (by rfl) (fun h8 oX' S8 hoX' => ?_) (by rfl) (by kernel_rfl)
    refine wpAny_tests_nil ?_
    rw [if_pos rfl]
    refine eCall (nBuiltin (v := .builtin "len") S8 B' (by rfl) (by kernel_rfl) (by decide) ?_ (by rfl) (by rfl) (by rfl) (by kernel_rfl))
    refine callWith_val (by rfl) (by rfl) (fun a e => nomatch e) (args1 ?_)
    refine eListComp (L := C) (m := m₁) (cl := [("rest", cX)]) B' (by rfl) (by decide +kernel) (by rfl) (by decide +kernel) ?_
    refine nCell (by rfl : ([(("rest" : Str), cX), (("numbers" : Str), L + 1)] : List (Str × Addr)).lookup ("numbers" : Str) = some (L + 1)) (S8.F.keep _ _ hcell) ho ?_ (by rfl) (by kernel_rfl)
    refine cut _ (iter_list (items := vs.toArray) R.handled S8 ⟨_, S8.F.keep _ _ hnum, rfl, kD, rfl⟩ fun it v i s₁ P E hI hP => wpAny_pure hP) fun it s₂ F2 => ⟨_, _, _, _, (fun j zs => zs.size = cntN (ns.take j) (i : Nat)), F2, ?_, ?_, ?_, ?_⟩
    · rw [List.size_toArray, hi.length, hn]; decide
    · rfl
    · intro g2 C2 D2 j v2 own2 m2 zs k2 h2 t2 B2 hg2 hj hP2 hJ2 S2
      obtain ⟨x, u, hx, rfl⟩ := ints_get hi j v2 (by simpa using hP2)
      refine aName (env := compEnvC _ [("rest", cX)] C2 (compEnvC _ [("rest", cX), ("numbers", L + 1)] C (lEnv L))) S2 (fun h3 S3 => ?_) (by rfl) (by kernel_rfl)
      refine wpAny_tests_one ?_
      walk_at "m.step"
      walk_at "m.step"
      refine nLocal S3 (by walk_at "m.look") ?_ (by rfl) (by kernel_rfl)
      walk_at "m.step"
      refine mod_int' (by decide) ?_
      refine nCell (by rfl : ([(("rest" : Str), cX)] : List (Str × Addr)).lookup ("rest" : Str) = some cX) (S3.F.keep _ _ (hg2 _ _ S8.getHead)) hoX' ?_ (by rfl) (by kernel_rfl)
      refine eq_int ?_
      walk_at "m.step"
      have hJ2 : zs.size = _ := hJ2
      have e : cntN (ns.take (j + 1)) (i : Nat) = cntN (ns.take j) (i : Nat) + if x.fmod 5 == ((i : Nat) : Int) then 1 else 0 := by
        unfold cntN
        rw [List.take_add_one, hx, List.countP_append]
        show _ + List.countP _ [x] = _
        rw [List.countP_singleton]
      by_cases hc : (x.fmod 5 == ((i : Nat) : Int)) = true
      · rw [if_pos hc] at e ⊢
        refine nLocal S3 (by walk_at "m.look") ?_ (by rfl) (by kernel_rfl)
        exact ⟨_, h3, _, rfl, S3, by show (zs.push _).size = _; rw [Array.size_push, hJ2, e]⟩
      · rw [if_neg hc] at e ⊢
        exact ⟨_, h3, _, rfl, S3, by show zs.size = _; rw [hJ2, e]; rfl⟩
    · intro DI zs kz h3 t3 S3 hJ3
      have hJ3 : zs.size = _ := hJ3
      rw [List.take_of_length_le (by rw [List.size_toArray, hi.length]; exact Nat.le_refl _)] at hJ3
      have hle : cntN ns (i : Nat) ≤ 9 := by unfold cntN; rw [← hn]; exact List.countP_le_length
      refine kw0 (call_len_list (items := zs) ⟨_, S3.getHead, rfl, kz, rfl⟩ (by omega) ?_)
      rw [hJ3]
      refine ⟨m₁, oX', h3, _, rfl, ⟨_, hoX'⟩, S3.tail, ?_⟩
      show IntsAre _ _
      rw [Array.toList_push, List.range_succ, List.map_append]
      exact ints_append hJ (.cons _ _ .nil)
  · intro DN ys k h t S' hJ
    have hJ : IntsAre _ _ := hJ
    have e : ((List.range 5).map fun r => (cntN ns (r : Nat) : Int)) = (List.range 5).map fun r => (cnt ws (r : Nat) : Int) := List.map_congr_left fun r hr => by rw [heq r (List.mem_range.mp hr)]
    rw [e] at hJ
    refine ke_ne_ints (xs := cs) (ys := ys.toList) ⟨_, (S'.N (DC, listOf cs.toArray kC) (by simp)).1, rfl, kC, rfl⟩ ⟨_, S'.getHead, rfl, k, by rw [Array.toArray_toList]⟩ hcs hJ (by have := R.units; show A.units + 64 < cLine; omega) ?_
    rw [decide_eq_true rfl]
    walk_at "m.step"
    rw [if_neg (by decide)]
    refine wpAny_execs_nil ?_
    exact hQ _ _ ⟨rfl, h, t, rfl, S'.tail.tail⟩
end
section
/-! sets of rests: every one of them is known, table and all -/
def allL : List (List Nat) := (List.range 32).map fun c => (List.range 5).filter fun d => c.testBit d
def insL (v : Nat) (l : List Nat) : List Nat := (List.range 5).filter fun d => l.contains d || d == v
def tabL (led : Bool) (l : List Nat) : SetTable := { mask := if l.length < 5 then 7 else 31, place := l.toArray, dummies := #[], finger := 0, led := led, moves := if l.length < 5 then 0 else 1, plain := true }
def midL (led : Bool) (l : List Nat) : SetTable := { mask := 7, place := l.toArray, dummies := #[], finger := 0, led := led, moves := 0, plain := true }
def posL (v : Nat) (l : List Nat) : Nat := (l.filter (· < v)).length
def hashesL (l : List Nat) : Array Int := (l.map fun d => hashInt (d : Nat)).toArray
def addOk (led : Bool) (l : List Nat) (v : Nat) : Bool :=
  allL.contains (insL v l) && (tabL led l).fits l.length && decide (l.length ≤ 5) && (if l.contains v then insL v l == l else
    (tabL led l).freeSlot (hashInt (v : Nat)) == some (v, false) && (tabL led l).put v == (midL led (insL v l), posL v l) && (l.take (posL v l) ++ v :: l.drop (posL v l) == insL v l) && (midL led (insL v l)).fits (l.length + 1) && decide ((insL v l).length = l.length + 1) &&
    (if l.length + 1 < 5 then midL led (insL v l) == tabL led (insL v l) && !(midL led (insL v l)).tooFull else
      (midL led (insL v l)).tooFull && decide (l.length + 1 = 5) && (midL led (insL v l)).relaid (hashesL (insL v l)) (SetTable.grown 5) == some (tabL led (insL v l), #[0, 1, 2, 3, 4]) && (tabL led (insL v l)).fits 5 && coversAll #[0, 1, 2, 3, 4] 5))
theorem add_all : ([true, false].all fun led => allL.all fun l => (List.range 5).all fun v => addOk led l v) = true := by kernel_rfl
theorem add_ok {led : Bool} {l : List Nat} {v : Nat} (hl : l ∈ allL) (hv : v < 5) : addOk led l v = true := by
  have h1 := List.all_eq_true.mp add_all led (by cases led <;> simp)
  exact List.all_eq_true.mp (List.all_eq_true.mp h1 l hl) v (List.mem_range.mpr hv)
inductive EntB : List (Int × Value) → List Nat → Prop
  | nil : EntB [] []
  | cons (d : Nat) (t : Tok) {es : List (Int × Value)} {l : List Nat} : EntB es l → EntB ((hashInt (d : Nat), .int (d : Nat) t) :: es) (d :: l)
theorem EntB.len {es : List (Int × Value)} {l : List Nat} (x : EntB es l) : es.length = l.length := by
  induction x with
  | nil => rfl
  | cons d t _ ih => rw [List.length_cons, List.length_cons, ih]
theorem EntB.take {es : List (Int × Value)} {l : List Nat} (x : EntB es l) : ∀ p, EntB (es.take p) (l.take p) := by
  induction x with
  | nil => intro p; simp; exact .nil
  | cons d t _ ih =>
    intro p
    cases p with
    | zero => exact .nil
    | succ p => exact .cons d t (ih p)
theorem EntB.drop {es : List (Int × Value)} {l : List Nat} (x : EntB es l) : ∀ p, EntB (es.drop p) (l.drop p) := by
  induction x with
  | nil => intro p; simp; exact .nil
  | cons d t x ih =>
    intro p
    cases p with
    | zero => exact .cons d t x
    | succ p => exact ih p
theorem EntB.app {es fs : List (Int × Value)} {l k : List Nat} (x : EntB es l) (y : EntB fs k) : EntB (es ++ fs) (l ++ k) := by
  induction x with
  | nil => exact y
  | cons d t _ ih => exact .cons d t ih
theorem EntB.hashes {es : List (Int × Value)} {l : List Nat} (x : EntB es l) : es.map (·.1) = l.map fun d => hashInt (d : Nat) := by
  induction x with
  | nil => rfl
  | cons d t _ ih => rw [List.map_cons, List.map_cons, ih]
theorem EntB.get {es : List (Int × Value)} {l : List Nat} (x : EntB es l) : ∀ (i : Nat) (d : Nat), l[i]? = some d → ∃ t, es[i]? = some (hashInt (d : Nat), .int (d : Nat) t) := by
  induction x with
  | nil => intro i d h; simp at h
  | cons d' t _ ih =>
    intro i d h
    cases i with
    | zero =>
      have e : d' = d := by simpa using h
      subst e
      exact ⟨t, rfl⟩
    | succ i => exact ih i d (by simpa using h)
theorem EntB.elems {w : World} {es : List (Int × Value)} {l : List Nat} (x : EntB es l) : ElemsOf (intKind pw w) es := by
  induction x with
  | nil => intro e he; simp at he
  | cons d t _ ih =>
    intro e he
    rcases List.mem_cons.mp he with rfl | he
    · exact ⟨⟨(d : Nat), intKind_is _ _ _ _, rfl⟩, rfl⟩
    · exact ih e he
theorem EntB.has {w : World} {es : List (Int × Value)} {l : List Nat} (x : EntB es l) (v : Nat) : (∃ e ∈ es, (intKind pw w).is ((v : Nat) : Int) e.2 = true) ↔ v ∈ l := by
  induction x with
  | nil => simp
  | cons d t _ ih =>
    have e : (intKind pw w).is ((v : Nat) : Int) (.int (d : Nat) t) = true ↔ v = d := by
      constructor
      · intro h
        have := (intKind pw w).inj _ _ _ h (intKind_is pw w ((d : Nat) : Int) t)
        omega
      · rintro rfl; exact intKind_is _ _ _ _
    constructor
    · rintro ⟨z, hz, h⟩
      rcases List.mem_cons.mp hz with rfl | hz
      · rw [e.mp h]; exact .head _
      · exact .tail _ (ih.mp ⟨z, hz, h⟩)
    · intro h
      rcases List.mem_cons.mp h with rfl | h
      · exact ⟨_, .head _, e.mpr rfl⟩
      · obtain ⟨z, hz, h⟩ := ih.mpr h
        exact ⟨z, .tail _ hz, h⟩
abbrev byText (w : World) : Bool := w.params.followText "set-order"
abbrev setO (w : World) (es : List (Int × Value)) (ep : Nat) (l : List Nat) : Obj := { cls := .type "set", dict := none, data := .set es.toArray ep (tabL (!byText w) l), slots := #[] }
def SetB (w : World) (o : Obj) (l : List Nat) : Prop := l ∈ allL ∧ ∃ es ep, EntB es l ∧ o = setO w es ep l
section
variable {w : World} {A : Around} {E : Value → Shared → Prop} {s : Shared}
theorem newSet_B {Q : Value → Shared → Prop} (h : SetB w (setO w [] 0 []) [] → Q (.ref s.heap.objs.size) { s with heap := s.heap.push (setO w [] 0 []) }) : wpAny (model pw w) A (newSet (.type "set")) Q E s := by
  unfold newSet setsByText
  refine wpAny_bind (wpAny_bind (wpAny_askSetting (wpAny_pure ?_)))
  dsimp only
  simp only [newObj]
  exact wpAny_bind (wpAny_alloc (wpAny_pure (h ⟨by decide +kernel, [], 0, .nil, rfl⟩)))
theorem setAdd_B {a : Addr} {o : Obj} {l : List Nat} {v : Nat} {t : Tok} {Q : Bool → Shared → Prop} (ho : s.heap.get? a = some o) (hB : SetB w o l) (hv : v < 5)
    (h : ∀ b h' o', Heap.SameBut a s.heap h' → h'.get? a = some o' → SetB w o' (insL v l) → Q b { s with heap := h', toks := s.toks + 1 }) : wpAny (model pw w) A (setAdd a (.int (v : Nat) t)) Q E s := by
  obtain ⟨hl, es, ep, hE, rfl⟩ := hB
  have ok := add_ok (led := !byText w) hl hv
  unfold addOk at ok
  rw [Bool.and_eq_true, Bool.and_eq_true, Bool.and_eq_true] at ok
  obtain ⟨⟨⟨o1, o2⟩, o3⟩, o4⟩ := ok
  have o3 : l.length ≤ 5 := of_decide_eq_true o3
  have o1 : insL v l ∈ allL := by simpa using o1
  have hsz : es.toArray.size = l.length := by rw [List.size_toArray, hE.len]
  have hf : (tabL (!byText w) l).fits es.toArray.size = true := by rw [hsz]; exact o2
  have hb : es.toArray.size < scanBound := by rw [hsz]; unfold scanBound; omega
  have hel : ElemsOf (intKind pw w) es.toArray.toList := hE.elems
  unfold setAdd
  refine wpAny_holding (wpAny_bind ((intKind pw w).pyHash (k := ((v : Nat) : Int)) (intKind_is _ _ _ _) ?_))
  unfold setAddHashed setAddHashedIn
  refine wpAny_holding (wpAny_bind (wpAny_setState_of (s := { s with toks := s.toks + 1 }) ho rfl hf ?_))
  dsimp only
  rw [byScan_of (knd := intKind pw w) rfl hb hel]
  simp only [↓reduceIte]
  unfold setAddByScan
  refine wpAny_bind (wpAny_bind (wpAny_rule (wpAny_bind (wpAny_setScan_of (k := ((v : Nat) : Int)) (intKind_is _ _ _ _) ho rfl hf hel ?_))))
  cases hr : List.findIdx? (fun e => (intKind pw w).is ((v : Nat) : Int) e.2) es.toArray.toList with
  | some j =>
    dsimp only
    obtain ⟨hj, hpj, _⟩ := List.findIdx?_eq_some_iff_getElem.mp hr
    have hm : v ∈ l := (hE.has (w := w) v).mp ⟨_, List.getElem_mem hj, hpj⟩
    rw [if_pos (by simpa using hm)] at o4
    have e : insL v l = l := by simpa using o4
    refine wpAny_pure (wpAny_pure (h _ s.heap _ (Heap.SameBut.refl ..) ho ?_))
    rw [e]
    exact ⟨hl, es, ep, hE, rfl⟩
  | none =>
    dsimp only
    have hm : v ∉ l := fun q => by
      obtain ⟨e, he, hp⟩ := (hE.has (w := w) v).mpr q
      have := List.findIdx?_eq_none_iff.mp hr e he
      rw [hp] at this; cases this
    rw [if_neg (by simpa using hm)] at o4
    simp only [Bool.and_eq_true, beq_iff_eq] at o4
    obtain ⟨⟨⟨⟨⟨p1, p2⟩, p3⟩, p4⟩, p5⟩, p6⟩ := o4
    have p5 : (insL v l).length = l.length + 1 := of_decide_eq_true p5
    have hE2 : EntB (es.take (posL v l) ++ (hashInt ((v : Nat) : Int), Value.int (v : Nat) t) :: es.drop (posL v l)) (insL v l) := by
      rw [← p3]
      exact (hE.take _).app (.cons v t (hE.drop _))
    have hins : SetTable.insertAt es.toArray (posL v l) (hashInt ((v : Nat) : Int), Value.int (v : Nat) t) = (es.take (posL v l) ++ (hashInt ((v : Nat) : Int), Value.int (v : Nat) t) :: es.drop (posL v l)).toArray := by
      unfold SetTable.insertAt
      apply Array.ext'
      simp
      exact List.take_of_length_le (by rw [List.length_drop]; exact Nat.le_refl _)
    have hz2 : (es.take (posL v l) ++ (hashInt ((v : Nat) : Int), Value.int (v : Nat) t) :: es.drop (posL v l)).toArray.size = l.length + 1 := by rw [List.size_toArray, hE2.len, p5]
    have hlay : layNew (tabL (!byText w) l) es.toArray (hashInt ((v : Nat) : Int)) (.int (v : Nat) t) = ((es.take (posL v l) ++ (hashInt ((v : Nat) : Int), Value.int (v : Nat) t) :: es.drop (posL v l)).toArray, midL (!byText w) (insL v l), false, false) := by
      unfold layNew
      rw [p1]
      dsimp only
      rw [p2]
      dsimp only
      rw [hins, hz2]
      unfold SetTable.orStandIn
      rw [if_pos p4, p4]; rfl
    rw [show (intKind pw w).hash ((v : Nat) : Int) = hashInt ((v : Nat) : Int) from rfl, hlay]
    dsimp only
    generalize (es.take (posL v l) ++ (hashInt ((v : Nat) : Int), Value.int (v : Nat) t) :: es.drop (posL v l)) = es2 at hE2 hz2 ⊢
    refine wpAny_bind (show wpAny _ _ (pure ()) _ _ _ from wpAny_pure ?_)
    rw [if_pos (show (midL (!byText w) (insL v l)).plain = true from rfl)]
    refine wpAny_bind ?_
    rw [hashByValue_scannable 8 rfl]
    refine wpAny_pure ?_
    rw [if_pos (show plainKind (.int (v : Nat) t) = true from rfl)]
    have hst : ∀ (h0 : Heap) (o0 : Obj) (e0 : Array (Int × Value)) (ep0 : Nat) (t0 : SetTable) (t1 : SetTable), h0.get? a = some { cls := .type "set", dict := none, data := .set e0 ep0 t0, slots := #[] } →
        (h0.update a (Obj.putSet es2.toArray t1)).get? a = some { cls := .type "set", dict := none, data := .set es2.toArray (ep0 + 1) t1, slots := #[] } := fun h0 o0 e0 ep0 t0 t1 e => by
      have := Heap.get?_update_self (Obj.putSet es2.toArray t1) e (by rw [putSet_of es2.toArray t1 rfl]; rfl)
      rw [putSet_of es2.toArray t1 rfl] at this; exact this
    have ho1 := hst s.heap (setO w es ep l) _ _ _ (midL (!byText w) (insL v l)) ho
    have hb2 : es2.toArray.size ≤ sizeLine := by rw [hz2, sizeLine_eq]; omega
    refine wpAny_bind (wpAny_storeSet_of (s := { s with toks := s.toks + 1 }) ho rfl ?_ hb2)
    have sb1 := Heap.SameBut.update s.heap a (Obj.putSet es2.toArray (midL (!byText w) (insL v l)))
    by_cases h5 : l.length + 1 < 5
    · rw [if_pos h5] at p6
      simp only [Bool.and_eq_true, beq_iff_eq, Bool.not_eq_true'] at p6
      rw [if_neg (by rw [p6.2]; decide)]
      refine wpAny_pure (wpAny_pure (h _ _ _ sb1 ho1 ⟨o1, es2, ep + 1, hE2, ?_⟩))
      rw [p6.1]
    · rw [if_neg h5] at p6
      simp only [Bool.and_eq_true, beq_iff_eq, decide_eq_true_eq] at p6
      obtain ⟨⟨⟨⟨q1, q2⟩, q3⟩, q4⟩, q5⟩ := p6
      rw [if_pos (by rw [q1]; rfl)]
      have hrel : relayAll (midL (!byText w) (insL v l)) es2.toArray (SetTable.grown es2.toArray.size) = (es2.toArray, tabL (!byText w) (insL v l), false) := by
        unfold relayAll
        have e1 : es2.toArray.map (·.1) = hashesL (insL v l) := by
          rw [List.map_toArray, hE2.hashes]; rfl
        rw [hz2, q2, e1, q3]
        dsimp only
        have e2 : (#[0, 1, 2, 3, 4] : Array Nat).filterMap (es2.toArray[·]?) = es2.toArray := by
          have hl5 : es2.length = 5 := by rw [hE2.len, p5, q2]
          match es2, hl5 with
          | [a, b, c, d, e], _ => rfl
        rw [e2, hz2, q2, if_pos (by rw [q4, q5]; rfl)]
      rw [hrel]
      dsimp only
      refine wpAny_bind (show wpAny _ _ (pure ()) _ _ _ from wpAny_pure ?_)
      refine wpAny_bind (wpAny_storeSet_of (s := { s with heap := s.heap.update a (Obj.putSet es2.toArray (midL (!byText w) (insL v l))), toks := s.toks + 1 }) ho1 rfl ?_ hb2)
      refine wpAny_pure (wpAny_pure (h _ _ _ (sb1.trans (Heap.SameBut.update _ a _)) (hst _ (setO w es ep l) _ _ _ _ ho1) ⟨o1, es2, ep + 1 + 1, hE2, rfl⟩))
end
end
section
/-! iteration over a set of rests -/
theorem slot_sit_next : Slot "set_iterator" "__next__" "set_iterator.__next__" := .of (owner := "set_iterator") (n := "__next__") (by rw [typeLookup_type, builtinLookup_eq_fast]; kernel_rfl) (by decide +kernel) (by decide +kernel) (by decide +kernel)
  (by first | exact .inl (by decide +kernel) | exact .inr (by decide +kernel)) (by rw [isSubtype_type]; kernel_rfl)
theorem slot_sit_iter : Slot "set_iterator" "__iter__" "set_iterator.__iter__" := .of (owner := "set_iterator") (n := "__iter__") (by rw [typeLookup_type, builtinLookup_eq_fast]; kernel_rfl) (by decide +kernel) (by decide +kernel) (by decide +kernel)
  (by first | exact .inl (by decide +kernel) | exact .inr (by decide +kernel)) (by rw [isSubtype_type]; kernel_rfl)
theorem entry_sit_next : entryFor table "set_iterator.__next__" = some Builtin.«set_iterator.__next__» := entryFor_of_tree (by kernel_rfl)
theorem entry_sit_iter : entryFor table "set_iterator.__iter__" = some Builtin.«dict_keyiterator.__iter__» := by
  refine entryFor_alias (id' := "dict_keyiterator.__iter__") ?_ (by decide +kernel) (by decide +kernel) ?_
  · rw [fastTable_eq_tree]; kernel_rfl
  · rw [fastTable_eq_tree]; kernel_rfl
theorem entry_set_iter : entryFor table "set.__iter__" = some Builtin.«frozenset.__iter__» := by
  refine entryFor_alias (id' := "frozenset.__iter__") ?_ (by decide +kernel) (by decide +kernel) ?_
  · rw [fastTable_eq_tree]; kernel_rfl
  · rw [fastTable_eq_tree]; kernel_rfl
theorem args_sit_next (a : Value) : argsOk "set_iterator.__next__" ⟨[a], []⟩ := by unfold argsOk; kernel_rfl
theorem args_sit_iter (a : Value) : argsOk "set_iterator.__iter__" ⟨[a], []⟩ := by unfold argsOk; kernel_rfl
theorem pick_go {α : Type} (next : Nat → Nat) : ∀ (f k : Nat) (left : List α) (out : Array α), left.length ≤ f → (pickOrder.go next f k left out).toList.Perm (out.toList ++ left)
  | 0, k, left, out, h => by
    have e : left = [] := List.eq_nil_of_length_eq_zero (by omega)
    subst e
    rw [List.append_nil]
    exact .refl _
  | f + 1, k, left, out, h => by
    unfold pickOrder.go
    cases hl : left with
    | nil =>
      rw [show ([] : List α)[next k % ([] : List α).length]? = none from rfl, List.append_nil]
    | cons x r =>
      have hi : next k % (x :: r).length < (x :: r).length := Nat.mod_lt _ (by simp)
      rw [List.getElem?_eq_getElem hi]
      dsimp only
      refine (pick_go next f (k + 1) _ _ ?_).trans ?_
      · rw [List.length_eraseIdx, if_pos hi]; rw [hl] at h; omega
      · rw [Array.toList_push, List.append_assoc]
        refine List.Perm.append_left _ ?_
        show List.Perm ((x :: r)[next k % (x :: r).length] :: (x :: r).eraseIdx (next k % (x :: r).length)) (x :: r)
        generalize next k % (x :: r).length = i at hi
        generalize x :: r = l at hi
        rw [List.eraseIdx_eq_take_drop_succ]
        refine List.perm_middle.symm.trans ?_
        rw [← List.drop_eq_getElem_cons hi, List.take_append_drop]
theorem pick_perm {α : Type} (next : Nat → Nat) (xs : Array α) : (pickOrder next xs).toList.Perm xs.toList := by
  unfold pickOrder
  have := pick_go next xs.size 0 xs.toList #[] (by rw [Array.length_toList]; exact Nat.le_refl _)
  simpa using this
def ordOf (w : World) (a : Addr) (ep : Nat) (es : List (Int × Value)) : List (Int × Value) := if byText w then (pickOrder (w.params.setOrder a ep) es.toArray).toList else es
theorem ord_perm (w : World) (a : Addr) (ep : Nat) (es : List (Int × Value)) : (ordOf w a ep es).Perm es := by
  unfold ordOf
  split
  · exact pick_perm _ _
  · exact .refl _
def slotAt (w : World) (l : List Nat) (i : Nat) : Nat := if byText w then 0 else if i = 0 then 0 else l.getD (i - 1) 0 + 1
def stepOk (l : List Nat) : Bool := (List.range (l.length + 1)).all fun i => SetTable.below l.toArray (if i = 0 then 0 else l.getD (i - 1) 0 + 1) == i
theorem step_all : ∀ l ∈ allL, stepOk l = true := by decide +kernel
theorem step_ok {l : List Nat} (hl : l ∈ allL) {i : Nat} (hi : i ≤ l.length) : SetTable.below l.toArray (if i = 0 then 0 else l.getD (i - 1) 0 + 1) = i := by
  have := List.all_eq_true.mp (step_all l hl) i (List.mem_range.mpr (by omega))
  simpa using this
abbrev sitO (w : World) (a : Addr) (l : List Nat) (ep i : Nat) : Obj := { cls := .type "set_iterator", data := .fields #[rawInt (slotAt w l i : Nat), rawInt (i : Nat), .ref a, rawInt (l.length : Nat), rawInt (ep : Nat)] }
theorem allL_len : ∀ l ∈ allL, l.length ≤ 5 := by decide +kernel
theorem and_ff' : ∀ c : Bool, ¬ ((false && c) = true) := by decide
theorem and_ff : ∀ b c : Bool, ¬ ((b && (false && c)) = true) := by decide
section
variable {w : World} {A : Around} {E : Value → Shared → Prop} {s : Shared}
theorem fits_B {w : World} {es : List (Int × Value)} {l : List Nat} (hl : l ∈ allL) (hE : EntB es l) : (tabL (!byText w) l).fits es.toArray.size = true := by
  have key : ∀ led : Bool, ∀ l ∈ allL, (tabL led l).fits l.length = true := by decide +kernel
  rw [List.size_toArray, hE.len]
  exact key _ _ hl
theorem set_iter_B {a : Addr} {es : List (Int × Value)} {ep : Nat} {l : List Nat} {Q : Value → Shared → Prop} (hl : l ∈ allL) (hE : EntB es l) (ho : s.heap.get? a = some (setO w es ep l))
    (h : Q (.ref s.heap.objs.size) { s with heap := s.heap.push (sitO w a l ep 0) }) : wpAny (model pw w) A (pyIter (.ref a)) Q E s := by
  have hT : s.TypeIs (.ref a) "set" := ⟨_, ho, rfl⟩
  have hf := fits_B (w := w) hl hE
  refine wpAny_pyIter_slot hT F.slot_set_iter (wpAny_call_entry F.slot_set_iter hT entry_set_iter ?_ (F.args_set_iter_1 _))
  unfold Builtin.«frozenset.__iter__»
  refine wpAny_bind (m := Builtin.Frozenset.slot0 "__iter__" _) ?_
  unfold Builtin.Frozenset.slot0
  refine wpAny_bind (m := slotArgs "__iter__" 0 _) (wpAny_pure ?_)
  refine wpAny_of_eq (a := a) (by rfl) ?_
  unfold Builtin.Frozenset.sizeOf
  refine wpAny_bind (wpAny_bind (wpAny_setEntries_of ho rfl hf (wpAny_pure ?_)))
  unfold setDrawn
  refine wpAny_bind (wpAny_bind (wpAny_setState_of ho rfl hf ?_))
  unfold setsByText
  refine wpAny_bind (wpAny_bind (wpAny_askSetting (wpAny_pure ?_)))
  refine wpAny_pure ?_
  split
  · rename_i hc
    exact absurd hc (and_ff _ _)
  refine wpAny_bind (wpAny_pure ?_)
  dsimp only
  refine wpAny_bind (wpAny_setEpoch_of ho rfl hf ?_)
  refine wpAny_bind (wpAny_newObj_type (wpAny_pure ⟨_, rfl, "set_iterator", _, ⟨_, Heap.get?_push_size _ rfl, rfl⟩, slot_sit_next.lookup, ?_⟩) (by size_fits))
  have e1 : es.toArray.size = l.length := by rw [List.size_toArray, hE.len]
  have e2 : slotAt w l 0 = 0 := by unfold slotAt; split <;> rfl
  rw [e1]
  have h' := h
  rw [show sitO w a l ep 0 = { cls := .type "set_iterator", data := .fields #[rawInt 0, rawInt 0, .ref a, rawInt (l.length : Nat), rawInt (ep : Nat)] } from by unfold sitO; rw [e2]; rfl] at h'
  exact h'
theorem setNext_B {a : Addr} {es : List (Int × Value)} {ep i : Nat} {l : List Nat} {Q : Option (Value × Nat) → Shared → Prop} (hl : l ∈ allL) (hE : EntB es l) (ho : s.heap.get? a = some (setO w es ep l)) (hi : i ≤ l.length)
    (hq : match (ordOf w a ep es)[i]? with
      | some e => Q (some (e.2, slotAt w l (i + 1))) s
      | none => Q none s) : wpAny (model pw w) A (setNext a (slotAt w l i) i ep) Q E s := by
  have hf := fits_B (w := w) hl hE
  unfold setNext
  refine wpAny_bind (wpAny_setState_of ho rfl hf ?_)
  unfold setsByText
  refine wpAny_bind (wpAny_bind (wpAny_askSetting (wpAny_pure ?_)))
  dsimp only
  cases hb : w.params.followText "set-order" with
  | true =>
    rw [if_pos (show (model pw w).w.params.followText "set-order" = true from hb), if_neg (by simp)]
    refine wpAny_bind (m := setWalk a) ?_
    unfold setWalk setsByText
    refine wpAny_bind (wpAny_setState_of ho rfl hf ?_)
    refine wpAny_bind (wpAny_bind (wpAny_askSetting (wpAny_pure ?_)))
    dsimp only
    rw [if_pos (show (model pw w).w.params.followText "set-order" = true from hb)]
    refine wpAny_bind (wpAny_askSetting (wpAny_pure ?_))
    refine wpAny_pure ?_
    have e1 : ordOf w a ep es = (pickOrder (w.params.setOrder a ep) es.toArray).toList := if_pos hb
    have e2 : ∀ j, slotAt w l j = 0 := fun j => if_pos hb
    rw [e1, Array.getElem?_toList] at hq
    rw [e2] at hq ⊢
    show Q (((pickOrder (w.params.setOrder a ep) es.toArray)[i]?).map fun e => (e.2, 0)) s
    cases hx : (pickOrder (w.params.setOrder a ep) es.toArray)[i]? with
    | none => rw [hx] at hq; exact hq
    | some e => rw [hx] at hq; exact hq
  | false =>
    rw [if_neg (show ¬ (model pw w).w.params.followText "set-order" = true from by rw [show (model pw w).w.params.followText "set-order" = false from hb]; exact Bool.false_ne_true)]
    have hbt : byText w = false := hb
    have e1 : ordOf w a ep es = es := if_neg (by rw [hbt]; exact Bool.false_ne_true)
    have e2 : ∀ j, slotAt w l j = if j = 0 then 0 else l.getD (j - 1) 0 + 1 := fun j => if_neg (by rw [hbt]; exact Bool.false_ne_true)
    rw [e1] at hq
    rw [hbt]
    split
    · rename_i hc
      exact absurd hc (and_ff' _)
    refine wpAny_bind (wpAny_of_eq (a := ()) (by rfl) ?_)
    rw [e2 i, show (tabL (!false) l).place = l.toArray from rfl, step_ok hl hi]
    refine wpAny_pure ?_
    rw [List.getElem?_toArray, List.getElem?_toArray]
    cases hx : l[i]? with
    | none =>
      have : es[i]? = none := by
        rw [List.getElem?_eq_none_iff] at hx ⊢
        rw [hE.len]; exact hx
      rw [this] at hq ⊢
      exact hq
    | some d =>
      obtain ⟨t, ht⟩ := hE.get i d hx
      rw [ht] at hq ⊢
      have e3 : slotAt w l (i + 1) = d + 1 := by
        rw [e2, if_neg (by omega), show i + 1 - 1 = i by omega, List.getD_eq_getElem?_getD, hx]; rfl
      rw [e3] at hq
      exact hq
/-- one draw -/
theorem set_next_B {it a : Addr} {es : List (Int × Value)} {ep i : Nat} {l : List Nat} {Q : Option Value → Shared → Prop} (hh : A.handled = none) (hl : l ∈ allL) (hE : EntB es l) (ho : s.heap.get? a = some (setO w es ep l)) (hit : s.heap.get? it = some (sitO w a l ep i)) (hi : i ≤ l.length)
    (hq : match (ordOf w a ep es)[i]? with
      | some e => ∀ h', Heap.SameBut it s.heap h' → h'.get? it = some (sitO w a l ep (i + 1)) → Q (some e.2) { s with heap := h' }
      | none => ∀ h', Heap.ExtBut it s.heap h' → Q none { s with heap := h' }) :
    wpAny (model pw w) A (pyNext (.ref it)) Q E s := by
  have hT : s.TypeIs (.ref it) "set_iterator" := ⟨_, hit, rfl⟩
  have hf := fits_B (w := w) hl hE
  have e1 : es.toArray.size = l.length := by rw [List.size_toArray, hE.len]
  unfold pyNext
  refine wpAny_bind (wpAny_attempt (wpAny_callSpecial?_slot (name := Str.ofString "__next__") hT slot_sit_next
    (wpAny_call_entry slot_sit_next hT entry_sit_next ?_ (args_sit_next _))))
  unfold Builtin.«set_iterator.__next__»
  refine wpAny_bind (m := slotArgs "__next__" 0 _) (wpAny_pure ?_)
  refine wpAny_bind (m := fieldsOf (.ref it)) ?_
  unfold fieldsOf
  refine wpAny_bind (wpAny_load hit ?_)
  refine wpAny_pure ?_
  dsimp only
  refine wpAny_bind (wpAny_setEntries_of ho rfl hf ?_)
  rw [e1, if_neg (by simp)]
  refine wpAny_bind (m := setNext a ((slotAt w l i : Nat) : Int).toNat ((i : Nat) : Int).toNat ((ep : Nat) : Int).toNat) ?_
  rw [Int.toNat_natCast, Int.toNat_natCast, Int.toNat_natCast]
  refine setNext_B hl hE ho hi ?_
  cases hx : (ordOf w a ep es)[i]? with
  | some e =>
    rw [hx] at hq
    dsimp only at hq ⊢
    refine wpAny_bind (wpAny_setField_rec hit (by simp) fun h1 g1 s1 => ?_)
    refine wpAny_bind (wpAny_setField_rec g1 (by simp) fun h2 g2 s2 => ?_)
    refine wpAny_pure ⟨_, rfl, wpAny_pure (hq h2 (s1.trans s2) ?_)⟩
    rw [g2]; rfl
  | none =>
    rw [hx] at hq
    dsimp only at hq ⊢
    refine wpAny_bind (wpAny_setField_rec hit (by simp) fun h1 g1 s1 => ?_)
    refine wpAny_mono (stopIt (s := { s with heap := h1 }) hh (P := Q) (Q := fun _ _ => False) fun h2 k2 => hq h2 fun b o nb e => k2 _ _ (s1.extBut b o nb e)) (fun _ _ x => x.elim) fun _ _ x => x
theorem set_self {it a : Addr} {l : List Nat} {ep i : Nat} {Q : Value → Shared → Prop} (hit : s.heap.get? it = some (sitO w a l ep i)) (h : Q (.ref it) s) : wpAny (model pw w) A (pyIter (.ref it)) Q E s := by
  have hT : s.TypeIs (.ref it) "set_iterator" := ⟨_, hit, rfl⟩
  refine wpAny_pyIter_slot hT slot_sit_iter (wpAny_call_entry slot_sit_iter hT entry_sit_iter ?_ (args_sit_iter _))
  show wpAny _ _ (ret (.ref it)) _ _ s
  exact wpAny_pure ⟨_, rfl, "set_iterator", _, hT, slot_sit_next.lookup, h⟩
abbrev RestP (π : List Nat) (i : Nat) (v : Value) : Prop := ∃ d t, π[i]? = some d ∧ v = .int (d : Nat) t
theorem EntB.at {es : List (Int × Value)} {l : List Nat} (x : EntB es l) : ∀ (i : Nat) (e : Int × Value), es[i]? = some e → RestP l i e.2 := by
  induction x with
  | nil => intro i e h; simp at h
  | cons d t _ ih =>
    intro i e h
    cases i with
    | zero =>
      have q : (hashInt (d : Nat), Value.int (d : Nat) t) = e := by simpa using h
      subst q
      exact ⟨d, t, rfl, rfl⟩
    | succ i => exact ih i e (by simpa using h)
theorem EntB.perm {es es' : List (Int × Value)} (p : es'.Perm es) : ∀ {l : List Nat}, EntB es l → ∃ l', EntB es' l' ∧ l'.Perm l := by
  induction p with
  | nil => intro l h; cases h; exact ⟨[], .nil, .refl _⟩
  | cons x p ih =>
    intro l h
    cases h with
    | cons d t h =>
      obtain ⟨l', h1, h2⟩ := ih h
      exact ⟨d :: l', .cons d t h1, h2.cons d⟩
  | swap x y q =>
    intro l h
    cases h with
    | cons d t h =>
      cases h with
      | cons d' t' h => exact ⟨_, .cons d' t' (.cons d t h), .swap ..⟩
  | trans p1 p2 ih1 ih2 =>
    intro l h
    obtain ⟨l1, a1, b1⟩ := ih2 h
    obtain ⟨l2, a2, b2⟩ := ih1 a1
    exact ⟨l2, a2, b2.trans b1⟩
theorem set_walks {I a : Addr} {es : List (Int × Value)} {ep : Nat} {l π : List Nat} (hne : a ≠ I) (hh : A.handled = none) (hl : l ∈ allL) (hE : EntB es l) (hπ : EntB (ordOf w a ep es) π) :
    Walks pw w A I [I, a] [I] l.length (RestP π) (fun i h => h.get? I = some (sitO w a l ep i) ∧ h.get? a = some (setO w es ep l) ∧ i ≤ l.length) where
  sub := by simp
  frame := fun i h h' ⟨x, y, z⟩ k => ⟨k _ (by simp) _ x, k _ (by simp) _ y, z⟩
  item := fun i s Q E hi ⟨x, y, z⟩ hQ => by
    have hlen : (ordOf w a ep es).length = l.length := by rw [(ord_perm w a ep es).length_eq, hE.len]
    refine set_next_B hh hl hE y x z ?_
    rw [List.getElem?_eq_getElem (by omega)]
    dsimp only
    intro h' hs hg
    refine hQ _ h' s.toks (hπ.at i _ (List.getElem?_eq_getElem (by omega))) ⟨hg, (hs.2 a hne).trans y, hi⟩ fun b o nb e => hs.extBut b o (by simpa using nb) e
  done := fun s Q E ⟨x, y, z⟩ hQ => by
    have hlen : (ordOf w a ep es).length = l.length := by rw [(ord_perm w a ep es).length_eq, hE.len]
    refine set_next_B hh hl hE y x z ?_
    rw [List.getElem?_eq_none (by omega)]
    dsimp only
    exact fun h' hs => hQ h' s.toks fun b o nb e => hs b o (by simpa using nb) e
  self := fun i s Q E ⟨x, _, _⟩ hQ => set_self x hQ
/-- a set as a feed -/
theorem iter_set {a : Addr} {o : Obj} {l : List Nat} {g₀ : Heap} {L : Addr} {m : Str → Option Value} {news : List (Addr × Obj)} (hh : A.handled = none) (S : St g₀ L m news s.heap) (ho : s.heap.get? a = some o) (hB : SetB w o l) :
    wpAny (model pw w) A (pyIter (.ref a)) (fun it s₂ => ∃ π : List Nat, π.Perm l ∧ ∀ (x : Str) (px : Pos), Fed w A (.Name x px) l.length (fun i v _ => RestP π i v) g₀ L m news s it s₂) E s := by
  obtain ⟨hl, es, ep, hE, rfl⟩ := hB
  obtain ⟨π, hπ, hp⟩ := EntB.perm (ord_perm w a ep es) hE
  have hne : a ≠ s.heap.objs.size := Nat.ne_of_lt (Heap.lt_size ho)
  refine set_iter_B hl hE ho ⟨π, hp, fun x px => ?_⟩
  refine fed_of S rfl (set_walks hne hh hl hE hπ) (fun i v s' Q E _ hQ => wpAny_pure hQ) (fun i h hx => ⟨_, hx.1⟩) ⟨Heap.get?_push_size _ rfl, Heap.get?_push_of_some _ ho, Nat.zero_le _⟩ fun b hb nb => ?_
  simp at hb
  rcases hb with rfl | rfl
  · exact absurd rfl nb
  · exact ⟨_, ho⟩
end
end
section
/-! sorted(a set of rests), len(it) -/
section
variable {w : World} {A : Around} {E : Value → Shared → Prop} {s : Shared}
theorem set_hint {r : Addr} {Q : Bool → Shared → Prop} (hT : s.TypeIs (.ref r) "set") (h : Q false s) : wpAny (model pw w) A (Builtin.List.listLengthHint (.ref r)) Q E s := by
  unfold Builtin.List.listLengthHint
  refine wpAny_bind (wpAny_specialOf hT PySem.F.slot_set_len.lookup ?_)
  generalize hid : ("set.__len__" : String) = id0
  wp_delta
  rw [show splitId id0 = some ("set", "__len__") from by subst hid; decide +kernel]
  subst hid
  refine wpAny_bind (wpAny_isInstance (T := "set") (b := true) hT (by rw [isSubtype_type]; kernel_rfl) ?_)
  refine wpAny_ite_split (fun hab => absurd hab (by decide)) (fun _ => ?_)
  refine wpAny_ite_split (fun _ => ?_) (fun hab => absurd (by decide +kernel) hab)
  refine wpAny_bind (wpAny_typeOf hT ?_)
  exact wpAny_pure h
theorem set_src {a : Addr} {es : List (Int × Value)} {ep : Nat} {l π : List Nat} (hl : l ∈ allL) (hE : EntB es l) (hπ : EntB (ordOf w a ep es) π) : KdlSrc pw w "set" a a l.length (RestP π) (fun h => h.get? a = some (setO w es ep l)) where
  type := fun s ho => ⟨_, ho, rfl⟩
  there := fun h ho => ⟨Heap.lt_size ho, Heap.lt_size ho⟩
  keep := fun h h' ho k => k a (.inl rfl) _ ho
  notList := by decide
  notTuple := by decide
  hint := fun A E s Q ho hq => set_hint ⟨_, ho, rfl⟩ hq
  iter := fun A s hh ho => ⟨_, _, (fun E Q hq => set_iter_B hl hE ho hq), set_walks (Nat.ne_of_lt (Heap.lt_size ho)) hh hl hE hπ, ⟨Heap.get?_push_size _ rfl, Heap.get?_push_of_some _ ho, Nat.zero_le _⟩⟩
theorem rests_are : ∀ {vs : List Value} {π : List Nat}, vs.length = π.length → (∀ (j : Nat) (v : Value), vs[j]? = some v → RestP π j v) → IntsAre vs (π.map fun d : Nat => (d : Int))
  | [], [], _, _ => .nil
  | v :: vs, d :: π, e, h => by
    obtain ⟨d', t, h1, rfl⟩ := h 0 v rfl
    have e1 : d = d' := by simpa using h1
    subst e1
    exact .cons _ _ (rests_are (by simpa using e) fun j v hv => h (j + 1) v hv)
  | [], _ :: _, e, _ => by cases e
  | _ :: _, [], e, _ => by cases e
theorem kf_ints_of : ∀ {vs : List Value} {ns : List Int}, IntsAre vs ns → kf_ints vs = true ∧ lks_nums vs = ns
  | _, _, .nil => ⟨rfl, rfl⟩
  | _, _, .cons n t r => by
    obtain ⟨a, b⟩ := kf_ints_of r
    exact ⟨a, by show n :: lks_nums _ = _; rw [b]⟩
theorem lks_are' : ∀ (q : List Int) (i : Nat) (t : Nat → Tok), IntsAre (lks_vals q i t) q
  | [], _, _ => .nil
  | a :: r, i, t => .cons _ _ (lks_are' r (i + 1) t)
theorem allL_asc : ∀ l ∈ allL, lks_asc (l.map fun d : Nat => (d : Int)) = true := by decide +kernel
theorem sorted_set {g : Heap} {L a : Addr} {m : Str → Option Value} {news : List (Addr × Obj)} {o : Obj} {l : List Nat} {Q : Value → Shared → Prop} (hh : A.handled = none) (S : St g L m news s.heap) (ho : s.heap.get? a = some o) (hB : SetB w o l) (hne : l ≠ [])
    (h : ∀ D vs c h' t, St g L m ((D, listOf vs.toArray c) :: news) h' → IntsAre vs (l.map fun d : Nat => (d : Int)) → Q (.ref D) { s with heap := h', toks := t }) :
    wpAny (model pw w) A (call (.builtin "sorted") [.ref a]) Q E s := by
  obtain ⟨hl, es, ep, hE, rfl⟩ := hB
  obtain ⟨π, hπ, hp⟩ := EntB.perm (ord_perm w a ep es) hE
  have hl5 := allL_len l hl
  refine kdu_sorted (set_src hl hE hπ) hh S.F S.N ho (by rw [sizeLine_eq]; omega) fun D h' t vs F' N' lt hlen hvs => ?_
  have hI := rests_are (by rw [hlen, hp.length_eq]) hvs
  obtain ⟨k1, k2⟩ := kf_ints_of hI
  have S' : St g L m ((D, listOf vs.toArray 0) :: news) h' := ⟨F', N', by
    rw [List.map_cons, List.nodup_cons]
    refine ⟨fun q => ?_, S.nd⟩
    obtain ⟨p, hp', e⟩ := List.mem_map.mp q
    exact absurd (show p.1 = D from e) (Nat.ne_of_lt (lt p hp'))⟩
  have hpos : 0 < l.length := List.length_pos_iff.mpr hne
  refine lks_sort (q := l.map fun d : Nat => (d : Int)) (its := vs.toArray) (n := 0) (news' := fun t => (D, listOf (lks_vals (l.map fun d : Nat => (d : Int)) 0 t).toArray (0 + 2)) :: news) F' N' (fun t => .head S'.fresh) k1 ?_ ?_ ?_ fun t2 h2 F2 N2 => ?_
  · unfold lks_ok
    rw [Bool.and_eq_true]
    refine ⟨List.isPerm_iff.mpr ?_, allL_asc l hl⟩
    rw [show lks_nums vs.toArray.toList = _ from k2]
    exact hp.map _
  · cases vs with
    | nil => simp only [List.length_nil] at hlen; omega
    | cons v r => rfl
  · show vs.length < 64
    omega
  · exact h D _ _ h2 t ⟨F2, N2, S'.nd⟩ (lks_are' _ _ _)
theorem len_set {g : Heap} {L a : Addr} {m : Str → Option Value} {news : List (Addr × Obj)} {o : Obj} {l : List Nat} {Q : Value → Shared → Prop} (S : St g L m ((a, o) :: news) s.heap) (hB : SetB w o l) (h : ∀ u t, Q (.int (l.length : Nat) u) { s with toks := t }) :
    wpAny (model pw w) A (call (.builtin "len") [.ref a]) Q E s := by
  obtain ⟨hl, es, ep, hE, rfl⟩ := hB
  have hl5 := allL_len l hl
  refine kse_len (knd := intKind pw w) (n := l.length) (S := fun k => es.any fun e => (intKind pw w).is k e.2) S.N (.head S.fresh) ⟨⟨rfl, rfl, rfl⟩, es.toArray, ep, tabL (!byText w) l, rfl, hE.elems, fun k => ?_, ?_, fits_B hl hE⟩ (by omega) (h _ _)
  · rw [List.any_eq_true]
  · rw [List.size_toArray, hE.len]
end
end
section
section
variable {w : World} {A : Around} {E : Value → Shared → Prop} {s : Shared} {g : Heap} {L : Addr} {m mg mb : Str → Option Value} {news : List (Addr × Obj)}
/-- a display of one element -/
theorem eSet1 {e : Expr} {k : Nat} {pos : Pos} {env : Env} {Q : Value → Shared → Prop} (S : St g L m news s.heap) (B : Base w mg mb g) (hc : kdsCode (K w.params) env.code = true) (hr : displayRoad k [e] = .oneByOne) (he : starEach [e] env = [(false, eval e env)])
    (h : ∀ D h', St g L m ((D, setO w [] 0 []) :: news) h' → SetB w (setO w [] 0 []) [] → wpAny (model pw w) A (eval e env) (fun v s₁ => wpAny (model pw w) A (setAdd D v) (fun _ s₂ => Q (.ref D) s₂) E s₁) E { s with heap := h' }) :
    wpAny (model pw w) A (eval (.Set [e] k pos) env) Q E s := by
  rw [arm_eval_Set]
  refine wpAny_bind (wpAny_standAt ?_)
  refine wpAny_bind (kds_main (K := K w.params) (B.X.keeps S.F.keep) hc fun b => ?_)
  rw [he, hr, List.map_cons, List.map_nil]
  unfold setDisplay
  dsimp only
  rw [if_neg (by decide)]
  refine wpAny_bind (newSet_B fun hB => ?_)
  have h1 := h _ _ (S.push (setO w [] 0 [])) hB
  generalize s.heap.push (setO w [] 0 []) = h2 at h1 ⊢
  generalize s.heap.objs.size = D at h1 ⊢
  dsimp only
  refine wpAny_bind (wpAny_holding ?_)
  refine wpAny_bind (m := evalAll [do let v ← eval e env; standAt pos; pure v]) ?_
  refine wpAny_evalAll_cons (wpAny_bind (wpAny_mono h1 (fun v s₁ h₁ => wpAny_bind (wpAny_standAt (wpAny_pure (wpAny_evalAll_nil ?_)))) fun _ _ x => x))
  refine wpAny_bind (wpAny_holding ?_)
  refine wpAny_bind ?_
  rw [List.forIn_cons]
  refine wpAny_bind (wpAny_bind (wpAny_mono h₁ (fun _ s₂ h₂ => ?_) fun _ _ x => x))
  refine wpAny_pure ?_
  dsimp only
  rw [List.forIn_nil]
  refine wpAny_pure ?_
  rw [if_neg (by decide)]
  refine wpAny_pure ?_
  show wpAny _ _ (forIn ([] : List (Bool × Sem Value)) _ _ >>= _) _ _ _
  refine wpAny_bind ?_
  rw [List.forIn_nil]
  exact wpAny_pure (wpAny_pure (wpAny_pure h₂))
end
variable {w : World} {mg mb : Str → Option Value} {A : Around} {s : Shared} {h₀ : Heap}
theorem seg_max {g : Heap} {L DC : Addr} {m : Str → Option Value} {news : List (Addr × Obj)} {cs : List Value} {ws : List Str} {kC : Nat} (B : Base w mg mb g) (R : Room A 9)
    (S : St g L m news s.heap) (hC : (DC, listOf cs.toArray kC) ∈ news) (mc : m "counts" = some (.ref DC)) (hcs : IntsAre cs ((List.range 5).map fun r => (cnt ws (r : Nat) : Int))) :
    wpAny (model pw w) A (exec (sN 9) (lEnv L)) (fun f s' => (∃ h' t', s' = { s with heap := h', toks := t' } ∧ St g L m news h') ∧ (f = .ret (.bool true) ∨ (f = .next ∧ ∀ r : Nat, r < 5 → cnt ws (r : Nat) ≤ 4))) Bot s := by
  show wpAny _ _ (exec (.If _ _ _ _) _) _ _ _
  walk_at "m.step"
  walk_at "m.step"
  refine eCall (eBuiltin (v := .builtin "max") S B (by rfl) (by kernel_rfl) (by decide) ?_ (by kernel_rfl) (by kernel_rfl))
  refine callWith_val (by rfl) (by rfl) (fun a e => nomatch e) (args1 ?_)
  walk_at "m.step"
  refine kw0 (max_list_N R.handled S.F S.N ⟨_, (S.N _ hC).1, rfl, kC, rfl⟩ hcs (by simp) fun h' M t tk F' N' hM hle => ?_)
  have S' : St g L m news h' := ⟨F', N', S.nd⟩
  walk_at "m.step"
  refine gt_int ?_
  walk_at "m.step"
  by_cases hc : M > 4
  · rw [if_pos (by simpa using hc)]
    walk_at "m.step"
    walk_at "m.step"
    walk_at "m.step"
    exact ⟨⟨h', _, rfl, S'⟩, .inl rfl⟩
  · rw [if_neg (by simpa using hc)]
    refine wpAny_execs_nil ?_
    refine ⟨⟨h', _, rfl, S'⟩, .inr ⟨rfl, fun r hr => ?_⟩⟩
    have := hle (cnt ws (r : Nat) : Int) (List.mem_map.mpr ⟨r, List.mem_range.mpr hr, rfl⟩)
    omega
theorem seg_due {g : Heap} {L DR : Addr} {m : Str → Option Value} {news : List (Addr × Obj)} {oR : Obj} {rs : List Value} {ws : List Str} {kR : Nat} (B : Base w mg mb g) (R : Room A 9)
    (S : St g L m news s.heap) (hR : (L + 2, oR) ∈ news) (ho : oR.data = .cell (some (.ref DR))) (hDR : (DR, listOf rs.toArray kR) ∈ news) (hrs : StrsAre rs ws) (hg : ∀ x ∈ ws, Good x) (hn : ws.length = 9) :
    wpAny (model pw w) A (exec (sN 10) (lEnv L)) (fun f s' => f = .next ∧ ∃ D oD h' t', s' = { s with heap := h', toks := t' } ∧ St g L (fun z => if z = "due" then some (.ref D) else m z) ((D, oD) :: news) h' ∧ SetB w oD (insL ((resid ws).getD 8 0) [])) Bot s := by
  show wpAny _ _ (exec (.Assign [.Name _ _] _ _) _) _ _ _
  walk_at "m.step"
  refine eSet1 S B (by kernel_rfl) (by rfl) (by rfl) fun D h2 S2 hB => ?_
  refine eCall (eGlobal S2 B (by rfl : nsIn (K w.params) mainGlobals "_law_left" = some (some (.ref 271))) ?_ (by kernel_rfl) (by kernel_rfl))
  refine callWith_fn (by rfl) (by rfl) (args1 ?_)
  walk_at "m.step"
  refine nCell (by rfl : (lEnv L).cells.lookup ("row" : Str) = some (L + 2)) (S2.N _ (.tail _ hR)).1 ho ?_ (by rfl) (by kernel_rfl)
  walk_at "m.step"
  obtain ⟨t8, g8⟩ := strs_get hrs 8 (by omega)
  refine item_litK (vs := rs) (k := 8) ⟨_, (S2.N _ (.tail _ hDR)).1, rfl, kR, rfl⟩ (by decide) (by decide) g8 ?_ (by with_unfolding_all rfl)
  refine kw0 ⟨⟨271, _, _, rfl, S2.F.keep _ _ (B.X _ _ (by rfl : (K w.params).lookup 271 = some (ob271 w.params))), rfl⟩, ?_⟩
  refine call_post (left_good B S2.F.keep (Room.mono R (by decide)) (hg _ (List.getElem_mem _))) ?_
  rintro v h5 t5 hz5 hk5 ⟨u5, rfl⟩
  have S5 := S2.keeps (fun b o e => hk5 b o (by simp) e)
  obtain ⟨q8, q8'⟩ := left_nat ws[8]
  rw [q8]
  refine setAdd_B (s := { s with heap := h5, toks := t5 }) S5.getHead hB q8' fun b h6 o6 sb g6 hB6 => ?_
  have S6 := S5.setHead sb g6
  refine sLocal (s := { s with heap := h6, toks := t5 + 1 }) S6 (fun h7 S7 => ?_) (by kernel_rfl) (by kernel_rfl)
  refine ⟨rfl, D, o6, h7, _, rfl, S7, ?_⟩
  rw [resid_get (by omega)]
  exact hB6
end
section
/-! a set comprehension of two clauses -/
abbrev sc2 (elt t1 i1 t2 i2 : Expr) (scope : Scope) (pos : Pos) : Expr := .SetComp elt [⟨t1, i1, [], 0⟩, ⟨t2, i2, [], 0⟩] scope pos
theorem turn_set0 (elt t1 i1 t2 i2 : Expr) (scope : Scope) (pos : Pos) (it acc : Value) (env : Env) : compTurn (sc2 elt t1 i1 t2 i2 scope pos) 0 it acc env = (do
    standAt i1.pos
    match ← pyNext it with
    | none => pure (.done .next)
    | some v => do
      letOwnedTupleGo t1 it v
      assign t1 env v
      let x ← eval i2 env
      standAt i2.pos
      let x ← foldedSetIterable i2 env x
      let _ ← runOwn (.compStart (sc2 elt t1 i1 t2 i2 scope pos) 1 (← holding [x] (pyIter x)) acc env) env
      again (.compLoop (sc2 elt t1 i1 t2 i2 scope pos) 0 it acc env)) := by rfl
theorem turn_set1 (elt t1 i1 t2 i2 : Expr) (scope : Scope) (pos : Pos) (it acc : Value) (env : Env) : compTurn (sc2 elt t1 i1 t2 i2 scope pos) 1 it acc env = (do
    standAt i2.pos
    match ← pyNext it with
    | none => pure (.done .next)
    | some v => do
      letOwnedTupleGo t2 it v
      assign t2 env v
      (do let v ← eval elt env; standAt elt.pos; let _ ← call (.builtin "set.add") [acc, v])
      again (.compLoop (sc2 elt t1 i1 t2 i2 scope pos) 1 it acc env)) := by rfl
section
variable {w : World} {A : Around} {E : Value → Shared → Prop} {s : Shared} {env : Env} {elt t1 i1 t2 i2 : Expr} {scope : Scope} {pos : Pos} {g : Heap} {L : Addr} {m mg mb : Str → Option Value} {news : List (Addr × Obj)}
theorem call_add_B {a : Addr} {o : Obj} {l : List Nat} {v : Nat} {t : Tok} {Q : Value → Shared → Prop} (ho : s.heap.get? a = some o) (hB : SetB w o l) (hv : v < 5)
    (h : ∀ h' o', Heap.SameBut a s.heap h' → h'.get? a = some o' → SetB w o' (insL v l) → Q .none { s with heap := h', toks := s.toks + 1 }) : wpAny (model pw w) A (call (.builtin "set.add") [.ref a, .int (v : Nat) t]) Q E s := by
  have hT : s.TypeIs (.ref a) "set" := by
    obtain ⟨_, es, ep, _, rfl⟩ := hB
    exact ⟨_, ho, rfl⟩
  refine wpAny_call_entry F.slot_set_add hT F.entry_set_add ?_ (F.args_set_add_2 _ _)
  unfold Builtin.«set.add» Builtin.Frozenset.oneOther
  simp only [List.isEmpty_nil, bind_assoc]
  unfold Builtin.Frozenset.addrOf
  refine wpAny_bind (wpAny_pure ?_)
  try dsimp only
  refine wpAny_bind (wpAny_pure ?_)
  try dsimp only
  refine wpAny_bind (setAdd_B ho hB hv fun b h' o' sb go hB' => ?_)
  exact wpAny_pure ⟨_, rfl, h h' o' sb go hB'⟩
theorem start_set {d : Nat} {it acc : Value} {R : Result → Shared → Prop} (hd : ((clausesOf (sc2 elt t1 i1 t2 i2 scope pos))[d]?).elim false (·.is_async != 0) = false)
    (h0 : codeAny (model pw w) A (.compLoop (sc2 elt t1 i1 t2 i2 scope pos) d it acc env) R s)
    (h : wpAny (model pw w) A (pyIter it) (fun it' s' => codeAny (model pw w) A (.compLoop (sc2 elt t1 i1 t2 i2 scope pos) d it' acc env) R s') Bot s) :
    codeAny (model pw w) A (.compStart (sc2 elt t1 i1 t2 i2 scope pos) d it acc env) R s := by
  refine codeAny_of_tree ?_
  show wpAny _ A ((compStart (sc2 elt t1 i1 t2 i2 scope pos) d it acc env).onRaise (fun x => do noteFrame x env; standAt theWindowsPlace)) _ _ s
  refine wpAny_notedAt ?_
  unfold compStart
  dsimp only
  rw [hd, if_neg Bool.false_ne_true]
  refine wpAny_bind (wpAny_askSetting ?_)
  split
  · exact wpAny_bind (wpAny_pure (wpAny_pure ⟨rfl, h0⟩))
  · refine wpAny_bind (wpAny_rule ?_)
    split
    · exact wpAny_bind (wpAny_standAt (wpAny_bind (wpAny_mono h (fun it' s' h' => wpAny_pure ⟨rfl, h'⟩) fun _ _ x => x.elim)))
    · exact wpAny_bind (wpAny_mono h (fun it' s' h' => wpAny_pure ⟨rfl, h'⟩) fun _ _ x => x.elim)
theorem loop_set1 {it acc : Value} {R : Result → Shared → Prop} (I : Nat → Shared → Prop)
    (turn : ∀ n s, I n s → wpAny (model pw w) A (pyNext it) (fun r s₁ => match r with
      | none => R (.ok .next) s₁
      | some v => wpAny (model pw w) A (letOwnedTupleGo t2 it v) (fun _ s₁' => wpAny (model pw w) A (assign t2 env v) (fun _ s₂ => wpAny (model pw w) A (eval elt env) (fun x s₃ =>
          wpAny (model pw w) A (call (.builtin "set.add") [acc, x]) (fun _ s₄ => ∃ m, m < n ∧ I m s₄) Bot s₃) Bot s₂) Bot s₁') Bot s₁) Bot s) (n : Nat) (h : I n s) :
    codeAny (model pw w) A (.compLoop (sc2 elt t1 i1 t2 i2 scope pos) 1 it acc env) R s := by
  refine codeAny_loop rfl I (fun n s hI => ?_) n h
  show wpAny _ A ((compTurn (sc2 elt t1 i1 t2 i2 scope pos) 1 it acc env).onRaise (fun x => do noteFrame x env; theTreesLotGoes x)) _ _ s
  refine wpAny_noted ?_
  rw [turn_set1]
  refine wpAny_bind (wpAny_standAt (wpAny_bind (cut _ (turn n s hI) (fun r s₁ h₁ => ?_))))
  cases r with
  | none => exact wpAny_pure h₁
  | some v =>
    refine wpAny_bind (cut _ h₁ fun _ s₁' h₁' => wpAny_bind (cut _ h₁' fun _ s₂ h₂ => wpAny_bind ?_))
    exact wpAny_bind (cut _ h₂ fun x s₃ h₃ => wpAny_bind (wpAny_standAt (wpAny_bind (cut _ h₃ fun _ s₄ h₄ => wpAny_pure (wpAny_pure ⟨rfl, h₄⟩)))))
theorem loop_set0 {it acc : Value} {R : Result → Shared → Prop} (hs : ∀ x, foldedSetIterable i2 env x = pure x) (I : Nat → Shared → Prop)
    (turn : ∀ n s, I n s → wpAny (model pw w) A (pyNext it) (fun r s₁ => match r with
      | none => R (.ok .next) s₁
      | some v => wpAny (model pw w) A (letOwnedTupleGo t1 it v) (fun _ s₁' => wpAny (model pw w) A (assign t1 env v) (fun _ s₂ => wpAny (model pw w) A (eval i2 env) (fun x s₃ =>
          wpAny (model pw w) A (pyIter x) (fun it' s₄ => codeAny (model pw w) A (.compStart (sc2 elt t1 i1 t2 i2 scope pos) 1 it' acc env) (fun r s' => (∃ f, r = .ok f) ∧ ∃ m, m < n ∧ I m s') s₄) Bot s₃) Bot s₂) Bot s₁') Bot s₁) Bot s) (n : Nat) (h : I n s) :
    codeAny (model pw w) A (.compLoop (sc2 elt t1 i1 t2 i2 scope pos) 0 it acc env) R s := by
  refine codeAny_loop rfl I (fun n s hI => ?_) n h
  show wpAny _ A ((compTurn (sc2 elt t1 i1 t2 i2 scope pos) 0 it acc env).onRaise (fun x => do noteFrame x env; theTreesLotGoes x)) _ _ s
  refine wpAny_noted ?_
  rw [turn_set0]
  refine wpAny_bind (wpAny_standAt (wpAny_bind (cut _ (turn n s hI) (fun r s₁ h₁ => ?_))))
  cases r with
  | none => exact wpAny_pure h₁
  | some v =>
    refine wpAny_bind (cut _ h₁ fun _ s₁' h₁' => wpAny_bind (cut _ h₁' fun _ s₂ h₂ => wpAny_bind (cut _ h₂ fun x s₃ h₃ => wpAny_bind (wpAny_standAt (wpAny_bind ?_)))))
    rw [hs]
    refine wpAny_pure (wpAny_bind (wpAny_holding (cut _ h₃ fun it' s₄ h₄ => wpAny_bind (wpAny_runOwn ?_))))
    refine codeAny_mono (show codeAny (model pw w) A _ _ _ from h₄) ?_
    rintro r s' ⟨⟨f, rfl⟩, hI'⟩
    exact wpAny_pure ⟨rfl, hI'⟩
/-- the second clause, over a list that stays -/
theorem inner_list {ll D : Addr} {items : Array Value} {oD : Obj} {l₀ : List Nat} {QQ : Shared → Prop} (hh : A.handled = none) (S : St g L m ((D, oD) :: news) s.heap) (hl : ∀ h : Heap, (∀ p ∈ news, h.get? p.1 = some p.2) → h.IsList ll items) (hB : SetB w oD l₀)
    (hlet : ∀ it v, letOwnedTupleGo t2 it v = pure ()) (J : Nat → (Str → Option Value) → List Nat → Prop) (J0 : J 0 m l₀)
    (turn : ∀ i v it o oD m₁ l h t, items[i]? = some v → J i m₁ l → St g L m₁ ((it, o) :: (D, oD) :: news) h →
      wpAny (model pw w) A (assign t2 env v) (fun _ s₂ => wpAny (model pw w) A (eval elt env) (fun x s₃ => ∃ d u m₂ h' t', x = .int (d : Nat) u ∧ d < 5 ∧ s₃ = { s with heap := h', toks := t' } ∧ St g L m₂ ((it, o) :: (D, oD) :: news) h' ∧ J (i + 1) m₂ (insL d l)) Bot s₂) Bot { s with heap := h, toks := t })
    (done : ∀ m₁ oD l h t, J items.size m₁ l → SetB w oD l → St g L m₁ ((D, oD) :: news) h → QQ { s with heap := h, toks := t }) :
    wpAny (model pw w) A (pyIter (.ref ll)) (fun it s₂ => codeAny (model pw w) A (.compStart (sc2 elt t1 i1 t2 i2 scope pos) 1 it (.ref D) env) (fun r s' => (∃ f, r = .ok f) ∧ QQ s') s₂) E s := by
  have hl' : ∀ {m₁ : Str → Option Value} {oD : Obj} {h : Heap} {X : List (Addr × Obj)}, St g L m₁ (X ++ ((D, oD) :: news)) h → h.IsList ll items := fun {m₁ oD h X} S' => hl h fun p hp => (S'.N p (List.mem_append_right _ (.tail _ hp))).1
  refine wpAny_pyIter_list (hl' (X := []) S) ?_
  have S0 : St g L m ((s.heap.objs.size, { cls := .type "list_iterator", data := .fields #[.ref ll, .int 0 0] }) :: (D, oD) :: news) (s.heap.push { cls := .type "list_iterator", data := .fields #[.ref ll, .int 0 0] }) := S.push _
  generalize hit : s.heap.objs.size = it at S0 ⊢
  generalize s.heap.push { cls := .type "list_iterator", data := .fields #[.ref ll, .int 0 0] } = hp at S0 ⊢
  have loop : codeAny (model pw w) A (.compLoop (sc2 elt t1 i1 t2 i2 scope pos) 1 (.ref it) (.ref D) env) (fun r s' => (∃ f, r = .ok f) ∧ QQ s') { s with heap := hp } := by
    refine loop_set1 (fun n s' => ∃ i m₁ oD l h t o, n = items.size - i ∧ i ≤ items.size ∧ s' = { s with heap := h, toks := t } ∧ J i m₁ l ∧ SetB w oD l ∧ St g L m₁ ((it, o) :: (D, oD) :: news) h ∧ o.cls = .type "list_iterator" ∧ o.data = .fields #[.ref ll, .int i 0])
      ?_ items.size ⟨0, m, oD, l₀, hp, s.toks, _, rfl, Nat.zero_le _, rfl, J0, hB, S0, rfl, rfl⟩
    rintro n s' ⟨i, m₁, oD, l, h, t, o, rfl, hi, rfl, hJ, hB, S1, hc, hd⟩
    have hI : h.IsListIter it ll i := ⟨o, S1.getHead, hc, hd⟩
    by_cases hlt : i < items.size
    · have hx : items[i]? = some items[i] := by simp [hlt]
      refine wpAny_pyNext_list_item hI (hl' (X := [_]) S1) hx fun h' hI' hs => ?_
      obtain ⟨o', ho', hc', hd'⟩ := id hI'
      dsimp only
      rw [hlet]
      refine wpAny_pure ?_
      refine cut _ (turn i _ it o' oD m₁ l h' t hx hJ (S1.setHead hs ho')) fun _ s₂ h₂ => cut _ h₂ ?_
      rintro x s₃ ⟨d, u, m₂, h3, t3, rfl, hd5, rfl, S3, hJ3⟩
      have S4 := S3.swap
      refine call_add_B (s := { s with heap := h3, toks := t3 }) S4.getHead hB hd5 fun h5 o5 sb g5 hB5 => ?_
      have S5 := (S4.setHead sb g5).swap
      exact ⟨items.size - (i + 1), by omega, i + 1, m₂, o5, insL d l, h5, t3 + 1, o', rfl, hlt, rfl, hJ3, hB5, S5, hc', hd'⟩
    · have e : i = items.size := by omega
      subst e
      refine wpAny_pyNext_list_end hh hI (hl' (X := [_]) S1) (by simp) fun h' hx => ?_
      exact ⟨⟨_, rfl⟩, done m₁ oD l h' t hJ hB (S1.off hx)⟩
  exact start_set (by rfl) loop (wpAny_pyIter_listiter (l := ll) (i := 0) ⟨_, S0.getHead, rfl, rfl⟩ loop)
end
end
section
section
variable {w : World} {A : Around} {E : Value → Shared → Prop} {s : Shared} {env : Env} {elt t1 i1 t2 i2 : Expr} {scope : Scope} {pos : Pos} {g₀ : Heap} {L : Addr} {m mg mb : Str → Option Value} {news : List (Addr × Obj)}
def SetTurn (w : World) (mg mb : Str → Option Value) (A : Around) (env : Env) (elt t1 i1 t2 i2 : Expr) (scope : Scope) (pos : Pos) (cl : List (Str × Addr)) (n : Nat) (P : Nat → Value → Heap → Prop) (J : Nat → List Nat → Prop) (s₀ : Shared) : Prop :=
  ∀ g C D i v own m₁ l oD h t, Base w mg mb g → Sub s₀.heap g → i < n → P i v h → J i l → SetB w oD l → St g C m₁ ((D, oD) :: own) h →
    wpAny (model pw w) A (assign t1 (compEnvC scope cl C env) v) (fun _ s₂ => wpAny (model pw w) A (eval i2 (compEnvC scope cl C env)) (fun x s₃ => wpAny (model pw w) A (pyIter x) (fun it' s₄ =>
      codeAny (model pw w) A (.compStart (sc2 elt t1 i1 t2 i2 scope pos) 1 it' (.ref D) (compEnvC scope cl C env)) (fun r s' => (∃ f, r = .ok f) ∧ ∃ m₂ oD' l' h' t', s' = { s₀ with heap := h', toks := t' } ∧ St g C m₂ ((D, oD') :: own) h' ∧ SetB w oD' l' ∧ J (i + 1) l') s₄) Bot s₃) Bot s₂) Bot { s₀ with heap := h, toks := t }
theorem set_block {cl : List (Str × Addr)} {it : Value} {n : Nat} {P : Nat → Value → Heap → Prop} {J : Nat → List Nat → Prop} {RR : Value → Addr → Result → Shared → Prop} {s₀ s₂ : Shared}
    (F : Fed w A t1 n P g₀ L m news s₀ it s₂) (B : Base w mg mb g₀) (hcell : ∀ y ∈ scope.names, y.2 ≠ .cell) (hkind : scope.kind = .function) (hs : ∀ C x, foldedSetIterable i2 (compEnvC scope cl C env) x = pure x) (J0 : J 0 []) (T : SetTurn w mg mb A env elt t1 i1 t2 i2 scope pos cl n P J s₀)
    (fin : ∀ D C oC oD l h t, (∀ h' : Heap, h'.get? C = some oC → ∃ mC, h'.Ns C mC) → St g₀ L m ((C, oC) :: (D, oD) :: news) h → SetB w oD l → J n l → RR (.ref D) C (.ok .next) { s₀ with heap := h, toks := t }) :
    wpAny (model pw w) A (newSet (.type "set")) (fun acc s₃ => wpAny (model pw w) A (newFunctionEnv scope env.globals cl [] env.qual none .none (some env)) (fun cenv s₄ =>
      codeAny (model pw w) A (.compStart (sc2 elt t1 i1 t2 i2 scope pos) 0 it acc { cenv with scope := relabel scope env }) (RR acc cenv.locals) s₄) E s₃) E s₂ := by
  obtain ⟨I, fp, wr, Md, Sx, h0, t0, rfl, rfl, W, hst, S, hk0, hw0, hs0⟩ := F
  have hsrc : ∀ b ∈ fp, b ∉ wr → ∃ o, h0.get? b = some o := fun b hb nb => let ⟨o, ho⟩ := hs0 b hb nb; ⟨o, hk0 _ _ ho⟩
  refine newSet_B fun hB0 => ?_
  refine wpAny_newFunctionEnv hcell (by intro y hy; simp at hy) (fun h₁ hns₁ hsb₁ => ?_) hkind
  dsimp only at hns₁ hsb₁ ⊢
  have e1 : (h0.push (setO w [] 0 [])).objs.size = h0.objs.size + 1 := Heap.size_push ..
  have k1 : Sub h0 h₁ := fun b o e => hsb₁.extBut b o (by rw [e1]; exact Nat.ne_of_lt (Nat.lt_succ_of_lt (Heap.lt_size e))) (Heap.get?_push_of_some _ (Heap.get?_push_of_some _ e))
  have q1 : h₁.get? h0.objs.size = some (setO w [] 0 []) := hsb₁.extBut _ _ (by rw [e1]; exact Nat.ne_of_lt (Nat.lt_succ_self _)) (Heap.get?_push_of_some _ (Heap.get?_push_size _ rfl))
  rw [e1] at hns₁
  rw [show ({ s₀ with heap := h0.push (setO w [] 0 []), toks := t0 } : Shared).heap.objs.size = h0.objs.size + 1 from e1]
  obtain ⟨Sg, hsub, hgs⟩ := frame_open (l := [(h0.objs.size, setO w [] 0 [])]) S (W.ex _ _ hst) k1 hns₁ (by omega) (fun p hp => by
    rcases List.mem_singleton.mp hp with rfl
    exact ⟨q1, Nat.le_refl _, by show h0.objs.size ≠ _; omega⟩) (by simp)
  have Bg := B.keeps hsub
  have hx1 : Sx 0 h₁ := W.turns.frame _ _ _ hst fun b hb o e => k1 b o e
  have loop : ∀ s₃ : Shared, s₃ = { s₀ with heap := h₁, toks := t0 } →
      codeAny (model pw w) A (.compLoop (sc2 elt t1 i1 t2 i2 scope pos) 0 (.ref I) (.ref h0.objs.size) (compEnvC scope cl (h0.objs.size + 1) env)) (RR (.ref h0.objs.size) (h0.objs.size + 1)) s₃ := by
    rintro s₃ rfl
    refine loop_set0 (env := compEnvC scope cl (h0.objs.size + 1) env) (hs _)
      (fun q s' => ∃ i m₁ l h t oD, q = n - i ∧ i ≤ n ∧ s' = { s₀ with heap := h, toks := t } ∧ J i l ∧ SetB w oD l ∧ St (hideAll h0 wr) (h0.objs.size + 1) m₁ ([(h0.objs.size, oD)] ++ ownOf h wr) h ∧ Sx i h)
      ?_ n ⟨0, _, [], h₁, _, _, rfl, Nat.zero_le _, rfl, J0, hB0, Sg, hx1⟩
    rintro q s' ⟨i, m₁, l, h, t, oD, rfl, hi, rfl, hJ, hB, S1, hx⟩
    by_cases hlt : i < n
    · refine W.turns.item i _ _ _ hlt hx fun v h1 t1 hMd kk1 => ?_
      refine W.turns.go i v _ _ _ hMd fun h2 hP hx2 kk2 => ?_
      have S2 : St (hideAll h0 wr) (h0.objs.size + 1) m₁ ([(h0.objs.size, oD)] ++ ownOf h2 wr) h2 := (St.change (S1.permP List.perm_append_comm) (by rw [ownOf_map, ownOf_map]) (fun b o nb e => by
        rw [ownOf_map] at nb
        exact kk2 b o nb (kk1 b o nb e)) (ownOf_at (W.ex _ _ hx2))).permP List.perm_append_comm
      refine cut _ (T _ (h0.objs.size + 1) h0.objs.size i v _ m₁ l oD h2 t1 Bg (fun b o e => hgs b o (fun q => by rw [hw0 b q] at e; cases e) (hk0 b o e)) hlt hP hJ hB S2) fun _ s₂ h₂ => cut _ h₂ fun x s₃ h₃ => cut _ h₃ fun it' s₄ h₄ => codeAny_mono h₄ ?_
      rintro r s' ⟨hf, m₂, oD', l', h', t', rfl, S', hB', hJ'⟩
      obtain ⟨S'', hx'⟩ := frame_turn (l' := [(h0.objs.size, oD')]) W hsrc S2 hx2 S'
      exact ⟨hf, n - (i + 1), by omega, i + 1, m₂, l', h', t', oD', rfl, hlt, rfl, hJ', hB', S'', hx'⟩
    · have e : i = n := by omega
      subst e
      refine W.turns.done _ _ _ hx fun h' t' k' => ?_
      have S3 := St.drops (S1.permP List.perm_append_comm) k'
      obtain ⟨oC, hoC, S4⟩ := frame_close (l := [(h0.objs.size, oD)]) S S3 (by omega) (fun p hp => by
        rcases List.mem_singleton.mp hp with rfl
        exact Nat.le_refl _)
      exact fin h0.objs.size (h0.objs.size + 1) oC oD l h' t' hoC S4 hB hJ
  exact start_set (by rfl) (loop _ rfl) (W.self 0 _ _ _ hx1 (loop _ rfl))
theorem aSetComp {cl : List (Str × Addr)} {y : Str} {py spos : Pos} {Q : Flow → Shared → Prop} (B : Base w mg mb g₀) (hL : env.locals = L)
    (hsw : swapsWith (sc2 elt t1 i1 t2 i2 scope pos) (some (.Name y py)) spos.line env = pure true)
    (hclos : closureFor scope env = pure cl) (hcell : ∀ y ∈ scope.names, y.2 ≠ .cell) (hkind : scope.kind = .function) (hnames : ∀ y ∈ scope.names, y.2 = .local → scope.names.lookup y.1 = some .local)
    (hy : env.kindOf y = some .local) (hp : (env.scope.kind == .class || (env.scope.kind == .module && env.locals != env.globals)) = false) (hs2 : ∀ C x, foldedSetIterable i2 (compEnvC scope cl C env) x = pure x)
    (h : wpAny (model pw w) A (eval i1 env) (fun x s₁ => wpAny (model pw w) A (pyIter x) (fun it s₂ => ∃ s₀ n P news J, Fed w A t1 n P g₀ L m news s₀ it s₂ ∧ J 0 [] ∧ SetTurn w mg mb A env elt t1 i1 t2 i2 scope pos cl n P J s₀ ∧
      (∀ D oD l h t, St g₀ L (fun z => if z = y then some (.ref D) else m z) ((D, oD) :: news) h → SetB w oD l → J n l → Q .next { s₀ with heap := h, toks := t })) Bot s₁) Bot s)
    (hs : ∀ x, foldedSetIterable i1 env x = pure x := by intro _; rfl) :
    wpAny (model pw w) A (exec (.Assign [.Name y py] (sc2 elt t1 i1 t2 i2 scope pos) spos) env) Q E s := by
  rw [exec_Assign_Name_used _ _ _ _ hsw]
  refine wpAny_bind (wpAny_standAt (wpAny_bind ?_))
  show wpAny _ A (do let _ ← comprehension (sc2 elt t1 i1 t2 i2 scope pos) scope env _ (newSet (.type "set")) false (eval i1 env) (some (assign (.Name y py) env))) _ _ s
  refine wpAny_bind (wpAny_mono (bot (wpAny_comprehension_free (use := some (assign (.Name y py) env)) (Q := fun _ s' => Q .next s') rfl hs hclos hkind hnames (cut _ h fun x s₁ h₁ => cut _ h₁ fun it s₂ h₂ => ?_))) (fun _ s' hq => wpAny_pure (wpAny_pure hq)) fun _ _ e => e)
  obtain ⟨s₀, n, P, news, J, F, J0, T, fin⟩ := h₂
  refine set_block (RR := fun acc C => compPost (model pw w) A Bot (some (assign (.Name y py) env)) (fun _ s' => Q .next s') acc C) F B hcell hkind hs2 J0 T fun D C oC oD l h t hC S hB hJ => ?_
  show wpAny _ A (assign (.Name y py) env (.ref D)) _ _ _
  subst hL
  refine wpAny_assign_Name (wpAny_storeName_local hy S.F.ns (fun h₂ hn₂ hs₂ => ?_) hp)
  have S2 : St g₀ env.locals (fun z => if z = y then some (.ref D) else m z) ((C, oC) :: (D, oD) :: news) h₂ := ⟨S.F.set hn₂ hs₂, S.N.set hs₂, S.nd⟩
  obtain ⟨mC, hCn⟩ := hC h₂ S2.getHead
  exact ⟨mC, hCn, fun h' hs' => fin D oD l h' _ (S2.off hs'.extBut) hB hJ⟩
end
end
section
section
variable {w : World} {A : Around} {E : Value → Shared → Prop} {s : Shared} {env : Env} {g : Heap} {L : Addr} {m : Str → Option Value} {news : List (Addr × Obj)}
theorem eForEnum {elts : List Expr} {kt : Nat} {tp : Pos} {body : List Stmt} {Q : Flow → Shared → Prop} {ll : Addr} {lo : Obj} {items : Array Value} {n : Nat} (hh : A.handled = none) (S : St g L m news s.heap) (hll : s.heap.get? ll = some lo) (hc : lo.cls = .type "list") (hd : lo.data = .seq items n)
    (J : Nat → (Str → Option Value) → List (Addr × Obj) → Prop) (hJ : J 0 m news) (hlist : ∀ i m₁ news₁ h, J i m₁ news₁ → St g L m₁ news₁ h → h.get? ll = some lo)
    (turn : ∀ i T x tv own m₁ news₁ h t, i < items.size → items[i]? = some x → h.IsTuple T #[.int (i : Nat) tv, x] → J i m₁ news₁ → St g L m₁ (own ++ news₁) h →
      wpAny (model pw w) A (assign (.Tuple elts kt tp) env (.ref T)) (fun _ s₂ => wpAny (model pw w) A (execs body env) (fun f s₃ => match f with
        | .next | .cont => ∃ m₂ news₂ h' t', s₃ = { s with heap := h', toks := t' } ∧ J (i + 1) m₂ news₂ ∧ St g L m₂ (own ++ news₂) h'
        | .brk => Q .next s₃
        | .ret v => Q (.ret v) s₃) Bot s₂) Bot { s with heap := h, toks := t })
    (done : ∀ m₁ news₁ h t, J items.size m₁ news₁ → St g L m₁ news₁ h → Q .next { s with heap := h, toks := t }) :
    wpAny (model pw w) A (call (.type "enumerate") [.ref ll]) (fun x s₁ => wpAny (model pw w) A (pyIter x) (fun it s₂ => codeAny (model pw w) A (.forLoop (.Tuple elts kt tp) it body [] env) (fun r s' => match r with | .ok f => Q f s' | .error e => cameBackBy (model pw w) A env E e s') s₂) E s₁) E s := by
  have hl : s.heap.IsList ll items := ⟨lo, hll, hc, n, hd⟩
  have hlt : ll < s.heap.objs.size := Heap.lt_size hll
  refine call_enumerate_list hl fun h' hE hI hsz hk => wpAny_pyIter_enum hE ?_
  generalize ez : s.heap.objs.size = z at hE hI hsz hlt ⊢
  have ne1 : ll ≠ z + 1 := Nat.ne_of_lt (Nat.lt_succ_of_lt hlt)
  have ne2 : ll ≠ z := Nat.ne_of_lt hlt
  have ne3 : z + 1 ≠ z := by omega
  have ex : ∀ b ∈ [z + 1, z], ∃ o, h'.get? b = some o := by
    intro b hb
    simp only [List.mem_cons, List.not_mem_nil, or_false] at hb
    rcases hb with rfl | rfl
    · exact ⟨_, hE⟩
    · obtain ⟨oi, hoi, _⟩ := hI
      exact ⟨_, hoi⟩
  have S' : St g L m (ownOf h' [z + 1, z] ++ news) h' := S.madeAll (S.keeps hk) rfl ⟨fun p hp => ⟨ownOf_at ex p hp, by
    have hm := (ownOf_mem hp).1
    simp only [List.mem_cons, List.not_mem_nil, or_false] at hm
    exact Heap.get?_none_of_le (by rw [ez]; rcases hm with e | e <;> rw [e] <;> omega)⟩, by rw [ownOf_map]; simp⟩
  refine eForT (s := { s with heap := h' }) (KTurns.ofWalksU (WalksT.enumerate hh (z + 1) z ll ne3 ne1 ne2 items).toU) ?_ ⟨⟨_, hE⟩, hI, ⟨lo, hk _ _ hll, hc, n, hd⟩⟩ S' J hJ ?_ ?_ done
  · rintro i h ⟨⟨old, he⟩, ⟨oi, hoi, _⟩, _⟩ b hb
    simp only [List.mem_cons, List.not_mem_nil, or_false] at hb
    rcases hb with rfl | rfl
    · exact ⟨_, he⟩
    · exact ⟨_, hoi⟩
  · intro b hb nb
    simp only [List.mem_cons, List.not_mem_nil, or_false, not_or] at hb nb
    rcases hb with e | e | rfl
    · exact absurd e nb.1
    · exact absurd e nb.2
    · exact ⟨lo, fun i m₁ news₁ h j S => hlist i m₁ news₁ h j S⟩
  · rintro i v own m₁ news₁ h t hi ⟨T, vals, rfl, ⟨tv, x, hx, rfl⟩, hT⟩ hJ S1
    exact turn i T x tv own m₁ news₁ h t hi hx hT hJ S1
/-- a cell and a local are filled from a pair -/
theorem aPairC {x y : Str} {px py pos : Pos} {k : Nat} {t c : Addr} {u v : Value} {o : Obj} {v₀ : Option Value} {Q : Unit → Shared → Prop} (hh : A.handled = none) (S : St g env.locals m ((c, o) :: news) s.heap) (ht : s.heap.IsTuple t #[u, v]) (hd : o.data = .cell v₀) (hc : env.cells.lookup x = some c)
    (h : ∀ h' o' t', St g env.locals (fun z => if z = y then some v else m z) ((c, o') :: news) h' → o'.data = .cell (some u) → Q () { s with heap := h', toks := t' })
    (hk : env.scope.kind = .function) (hx : env.kindOf x = some .cell) (hy : env.kindOf y = some .local) :
    wpAny (model pw w) A (assign (.Tuple [.Name x px, .Name y py] k pos) env (.ref t)) Q E s := by
  refine wpAny_assign_Tuple hh ht (by rfl) (by rfl) fun h₁ hx₁ => ?_
  have S1 : St g env.locals m ((c, o) :: news) h₁ := S.keeps fun b o e => hx₁ b o (Nat.ne_of_lt (Heap.lt_size e)) e
  refine wpAny_assignInOrder_more ?_
  refine aCell S1 hd hc (fun h₂ o' S2 hd' => ?_) hk hx
  refine wpAny_assignInOrder_more (wpAny_assign_Name (sLoc S2 (fun h₃ S3 => ?_) hk hy))
  refine wpAny_assignInOrder_none ?_
  exact h h₃ o' _ S3 hd'
end
end
section
/-! the plain law: which rests are due, which tables there are -/
def dueL (r : List Nat) (k : Nat) : List Nat := dueList (dueN r k)
def stepL (r : List Nat) (k : Nat) (l : List Nat) : List Nat := (List.range 5).filter fun d => l.any fun e => (e + r.getD k 0) % 5 == d || (e + r.getD (k + 4) 0) % 5 == d
theorem dueList_range (f : Nat → Bool) : dueList ((List.range 5).map f) = (List.range 5).filter f := by
  have key : ∀ a b c d e : Bool, dueList [a, b, c, d, e] = (List.range 5).filter fun i => [a, b, c, d, e].getD i false := by decide
  have := key (f 0) (f 1) (f 2) (f 3) (f 4)
  rw [show (List.range 5).map f = [f 0, f 1, f 2, f 3, f 4] from rfl, this]
  refine List.filter_congr fun i hi => ?_
  have hi := List.mem_range.mp hi
  match i, hi with
  | 0, _ => rfl
  | 1, _ => rfl
  | 2, _ => rfl
  | 3, _ => rfl
  | 4, _ => rfl
theorem any_due (q : Nat → Bool) (b : List Bool) : (b.zipIdx.any fun z => z.1 && q z.2) = (dueList b).any q := by
  unfold dueList
  rw [List.any_map, List.any_filter]
  rfl
theorem due_zero (r : List Nat) : dueL r 0 = insL (r.getD 8 0) [] := by
  unfold dueL dueN insL
  rw [dueList_range]
  refine List.filter_congr fun i _ => ?_
  simp
theorem due_succ (r : List Nat) (k : Nat) : dueL r (k + 1) = stepL r k (dueL r k) := by
  unfold dueL stepL
  rw [show dueN r (k + 1) = (List.range 5).map fun d => (dueN r k).zipIdx.any fun b => b.1 && ((b.2 + r.getD k 0) % 5 == d || (b.2 + r.getD (k + 4) 0) % 5 == d) from rfl, dueList_range]
  refine List.filter_congr fun d _ => ?_
  exact any_due (fun e => (e + r.getD k 0) % 5 == d || (e + r.getD (k + 4) 0) % 5 == d) _
theorem step_nodup {r p : List Nat} {es : List (Nat × List Nat)} (h : (es.map (·.1)).Nodup) : ((stepN r es p).map (·.1)).Nodup := by
  unfold stepN
  split
  · exact h
  · rename_i hc
    rw [List.map_append, List.nodup_append]
    refine ⟨h, by simp, fun a ha b hb e => hc ?_⟩
    obtain ⟨z, hz, rfl⟩ := List.mem_map.mp ha
    have e2 : b = restN r p := by simpa using hb
    rw [List.any_eq_true]
    exact ⟨z, hz, by rw [beq_iff_eq]; exact e.trans e2⟩
theorem fold_nodup {r : List Nat} : ∀ (ps : List (List Nat)) (es : List (Nat × List Nat)), (es.map (·.1)).Nodup → ((ps.foldl (stepN r) es).map (·.1)).Nodup
  | [], es, h => h
  | p :: ps, es, h => fold_nodup ps _ (step_nodup h)
theorem tab_nodup (r : List Nat) (k : Nat) : ((tabN r k).map (·.1)).Nodup := by
  cases k with
  | zero => show ([(restN r [8], [8])].map (·.1)).Nodup; simp
  | succ k => exact fold_nodup _ [] (by simp)
theorem names_rise : ∀ d, d < 5 → ∀ e, e < 5 → risingS (nameS d) [nameS e] = decide (d ≤ e) := by decide +kernel
theorem rise_cons (p x : Str) (r : List Str) : risingS p (x :: r) = (risingS p [x] && risingS x r) := by
  simp [risingS]
theorem rise_of : ∀ (π : List Nat) (d : Nat), d < 5 → (∀ e ∈ π, e < 5) → risingS (nameS d) (π.map nameS) = true → (∀ e ∈ π, d ≤ e) ∧ π.Pairwise (· ≤ ·)
  | [], _, _, _, _ => ⟨fun e he => by simp at he, .nil⟩
  | e :: π, d, hd, h, hr => by
    have he := h e (.head _)
    rw [List.map_cons, rise_cons, Bool.and_eq_true, names_rise d hd e he, decide_eq_true_eq] at hr
    obtain ⟨a, b⟩ := rise_of π e he (fun x hx => h x (.tail _ hx)) hr.2
    refine ⟨fun x hx => ?_, .cons a b⟩
    rcases List.mem_cons.mp hx with rfl | hx
    · exact hr.1
    · exact Nat.le_trans hr.1 (a x hx)
theorem sorted_of : ∀ (π : List Nat), (∀ e ∈ π, e < 5) → sortedS (π.map nameS) = true → π.Pairwise (· ≤ ·)
  | [], _, _ => .nil
  | d :: π, h, hr => by
    obtain ⟨a, b⟩ := rise_of π d (h d (.head _)) (fun x hx => h x (.tail _ hx)) hr
    exact .cons a b
theorem perm_names {zs : List Str} {l : List Nat} (p : zs.Perm (l.map nameS)) : ∃ π : List Nat, zs = π.map nameS ∧ π.Perm l := by
  have gen : ∀ {as bs : List Str}, as.Perm bs → ∀ l : List Nat, bs = l.map nameS → ∃ π : List Nat, as = π.map nameS ∧ π.Perm l := by
    intro as bs p
    induction p with
    | nil => intro l h; cases l with | nil => exact ⟨[], rfl, .refl _⟩ | cons _ _ => cases h
    | cons x p ih =>
      intro l h
      cases l with
      | nil => cases h
      | cons d l =>
        rw [List.map_cons] at h
        injection h with h1 h2
        obtain ⟨π, e, q⟩ := ih l h2
        exact ⟨d :: π, by rw [List.map_cons, h1, e], q.cons d⟩
    | swap x y r =>
      intro l h
      match l, h with
      | d :: e :: l, h =>
        rw [List.map_cons, List.map_cons] at h
        injection h with h1 h2
        injection h2 with h2 h3
        exact ⟨e :: d :: l, by rw [List.map_cons, List.map_cons, h1, h2, h3], .swap ..⟩
    | trans p1 p2 ih1 ih2 =>
      intro l h
      obtain ⟨π1, e1, q1⟩ := ih2 l h
      obtain ⟨π2, e2, q2⟩ := ih1 π1 e1
      exact ⟨π2, e2, q2.trans q1⟩
  exact gen p l rfl
theorem ok_round {r : List Nat} (h : okRow r = true) {k : Nat} (hk : k < 4) :
    k + 2 ≤ (dueL r (k + 1)).length ∧ ∀ zs : List Str, zs.Perm ((tabS (tabN r (k + 1))).map (·.1)) → sortedS zs = true → zs = (dueL r (k + 1)).map nameS := by
  unfold okRow at h
  rw [Bool.and_eq_true] at h
  have h1 := List.all_eq_true.mp h.1 k (List.mem_range.mpr hk)
  unfold okRound at h1
  dsimp only at h1
  rw [Bool.and_eq_true, Bool.and_eq_true, decide_eq_true_eq] at h1
  obtain ⟨⟨h2, h3⟩, h4⟩ := h1
  refine ⟨h3, fun zs hp hs => ?_⟩
  have e0 : (tabS (tabN r (k + 1))).map (·.1) = ((tabN r (k + 1)).map (·.1)).map nameS := by
    unfold tabS
    rw [List.map_map, List.map_map]; rfl
  rw [e0] at hp
  obtain ⟨π, rfl, q⟩ := perm_names hp
  have hlt : ∀ e ∈ π, e < 5 := fun e he => by
    obtain ⟨z, hz, rfl⟩ := List.mem_map.mp (q.mem_iff.mp he)
    simpa using List.all_eq_true.mp h4 z hz
  have hnd : π.Nodup := q.nodup_iff.mpr (tab_nodup r (k + 1))
  have hmem : ∀ i, i ∈ π ↔ i ∈ dueL r (k + 1) := fun i => by
    have hd5 : ∀ j ∈ dueL r (k + 1), j < 5 := fun j hj => by
      rw [due_succ] at hj
      unfold stepL at hj
      exact List.mem_range.mp (List.mem_filter.mp hj).1
    have z : ∀ i, i < 5 → (i ∈ π ↔ i ∈ dueL r (k + 1)) := fun i hi => by
      have := List.all_eq_true.mp h2 i (List.mem_range.mpr hi)
      rw [beq_iff_eq] at this
      rw [q.mem_iff]
      constructor
      · intro hm
        obtain ⟨z, hz, e⟩ := List.mem_map.mp hm
        have t : ((tabN r (k + 1)).any fun x => x.1 == i) = true := List.any_eq_true.mpr ⟨z, hz, by rw [beq_iff_eq]; exact e⟩
        rw [t] at this
        have := this.symm
        simpa [dueL] using this
      · intro hm
        have t : (dueList (dueN r (k + 1))).contains i = true := by simpa [dueL] using hm
        rw [t] at this
        obtain ⟨z, hz, e⟩ := List.any_eq_true.mp this
        exact List.mem_map.mpr ⟨z, hz, by simpa using e⟩
    exact ⟨fun hi => (z i (hlt i hi)).mp hi, fun hi => (z i (hd5 i hi)).mpr hi⟩
  have hsd : (dueL r (k + 1)).Pairwise (· < ·) := by
    rw [due_succ]
    unfold stepL
    exact List.Pairwise.filter _ List.pairwise_lt_range
  congr 1
  refine List.Perm.eq_of_pairwise (le := (· ≤ ·)) (fun a b _ _ h1 h2 => Nat.le_antisymm h1 h2) (sorted_of π hlt hs) (hsd.imp fun h => Nat.le_of_lt h) ?_
  exact (List.perm_ext_iff_of_nodup hnd (hsd.imp fun h => Nat.ne_of_lt h)).mpr hmem
theorem ok_end {r : List Nat} (h : okRow r = true) : ∃ e, (tabN r 4).find? (·.1 == 0) = some e ∧ e ∈ tabN r 4 ∧ e.2.length = 5 ∧ e.2.Nodup ∧ restN r e.2 = 0 := by
  unfold okRow at h
  rw [Bool.and_eq_true] at h
  have h1 := h.2
  unfold okEnd at h1
  cases hf : (tabN r 4).find? (·.1 == 0) with
  | none => rw [hf] at h1; cases h1
  | some e =>
    rw [hf] at h1
    simp only [Bool.and_eq_true, beq_iff_eq, decide_eq_true_eq] at h1
    exact ⟨e, rfl, List.mem_of_find?_eq_some hf, h1.1.1, h1.1.2, h1.2⟩
end
section
theorem rowOf_eq (a b c d e : Nat) : rowOf [a, b, c, d, e] = List.replicate a 0 ++ (List.replicate b 1 ++ (List.replicate c 2 ++ (List.replicate d 3 ++ List.replicate e 4))) := by
  unfold rowOf
  simp [List.zipIdx]
theorem sorted_row {r : List Nat} (hs : r.Pairwise (· ≤ ·)) (hlt : ∀ x ∈ r, x < 5) : r = rowOf [r.count 0, r.count 1, r.count 2, r.count 3, r.count 4] := by
  refine List.Perm.eq_of_pairwise (le := (· ≤ ·)) (fun a b _ _ h1 h2 => Nat.le_antisymm h1 h2) hs ?_ ?_
  · rw [rowOf_eq]
    have rep : ∀ n x, (List.replicate n x : List Nat).Pairwise (· ≤ ·) := fun n x => List.pairwise_replicate.mpr (.inr (Nat.le_refl _))
    have mem : ∀ {n x y : Nat}, y ∈ List.replicate n x → y = x := fun h => (List.mem_replicate.mp h).2
    simp only [List.pairwise_append, List.mem_append]
    refine ⟨rep _ _, ⟨rep _ _, ⟨rep _ _, ⟨rep _ _, rep _ _, ?_⟩, ?_⟩, ?_⟩, ?_⟩
    · intro x hx y hy
      have := mem hx; have := mem hy; omega
    · intro x hx y hy
      have := mem hx
      rcases hy with hy | hy <;> (have := mem hy; omega)
    · intro x hx y hy
      have := mem hx
      rcases hy with hy | hy | hy <;> (have := mem hy; omega)
    · intro x hx y hy
      have := mem hx
      rcases hy with hy | hy | hy | hy <;> (have := mem hy; omega)
  · rw [List.perm_iff_count]
    intro x
    rw [rowOf_eq]
    simp only [List.count_append, List.count_replicate]
    by_cases h5 : x < 5
    · match x, h5 with
      | 0, _ => simp
      | 1, _ => simp
      | 2, _ => simp
      | 3, _ => simp
      | 4, _ => simp
    · rw [List.count_eq_zero.mpr fun hx => h5 (hlt x hx)]
      have e : ∀ k, k < 5 → (k == x) = false := fun k hk => by simp; omega
      rw [e 0 (by omega), e 1 (by omega), e 2 (by omega), e 3 (by omega), e 4 (by omega)]
      simp
theorem resid_lt (ws : List Str) : ∀ x ∈ resid ws, x < 5 := fun x hx => by
  obtain ⟨y, _, rfl⟩ := List.mem_map.mp hx
  exact (left_nat y).2
theorem resid_count (ws : List Str) (x : Nat) : (resid ws).count x = cnt ws (x : Int) := by
  unfold resid cnt List.count
  rw [List.countP_map]
  refine List.countP_congr fun y _ => ?_
  have := (left_nat y).1
  simp only [Function.comp]
  rw [beq_iff_eq, beq_iff_eq]
  omega
theorem row_good {ws : List Str} (hs : ws.Pairwise fun a b => left a ≤ left b) (h9 : ws.length = 9) (h4 : ∀ r : Nat, r < 5 → cnt ws (r : Nat) ≤ 4) : okRow (resid ws) = true := by
  have hr : (resid ws).Pairwise (· ≤ ·) := by
    unfold resid
    rw [List.pairwise_map]
    refine hs.imp fun {a b} h => ?_
    have := (left_nat a).1
    have := (left_nat b).1
    omega
  have e := sorted_row hr (resid_lt ws)
  have hl : (resid ws).length = 9 := by unfold resid; rw [List.length_map, h9]
  have hsum : (resid ws).count 0 + (resid ws).count 1 + (resid ws).count 2 + (resid ws).count 3 + (resid ws).count 4 = 9 := by
    rw [← hl]
    conv => rhs; rw [e, rowOf_eq]
    simp only [List.length_append, List.length_replicate]
    omega
  have c : ∀ r : Nat, r < 5 → (resid ws).count r ≤ 4 := fun r hr => by rw [resid_count]; exact h4 r hr
  rw [e]
  exact row_ok hsum (c 0 (by omega)) (c 1 (by omega)) (c 2 (by omega)) (c 3 (by omega)) (c 4 (by omega))
/-- the row's counts are the numbers' -/
theorem cnt_row {ns : List Int} {σ : List Nat} (hn : ns.length = 9) (hA : Arr ns 9 σ) (r : Int) : cnt (σ.map (wAt ns)) r = cntN ns r := by
  unfold cnt cntN
  rw [(hA.perm.map (wAt ns)).countP_eq, List.countP_map]
  have e : ns = (List.range 9).map fun i => ns.getD i 0 := by
    apply List.ext_getElem
    · simp [hn]
    · intro i h1 h2
      rw [List.getElem_map, List.getElem_range, List.getD_eq_getElem?_getD, List.getElem?_eq_getElem h1]; rfl
  conv => rhs; rw [e]
  rw [List.countP_map]
  refine List.countP_congr fun i _ => ?_
  simp only [Function.comp]
  unfold wAt
  rw [word_left]
end
section
theorem filter_allL (p : Nat → Bool) : (List.range 5).filter p ∈ allL := by
  have key : ∀ a b c d e : Bool, ((List.range 5).filter fun i => [a, b, c, d, e].getD i false) ∈ allL := by decide +kernel
  have h := key (p 0) (p 1) (p 2) (p 3) (p 4)
  have e : (List.range 5).filter p = (List.range 5).filter fun i => [p 0, p 1, p 2, p 3, p 4].getD i false := List.filter_congr fun i hi => by
    have hi := List.mem_range.mp hi
    match i, hi with
    | 0, _ => rfl
    | 1, _ => rfl
    | 2, _ => rfl
    | 3, _ => rfl
    | 4, _ => rfl
  rw [e]; exact h
theorem allL_lt : ∀ l ∈ allL, ∀ d ∈ l, d < 5 := by decide +kernel
theorem allL_rise : ∀ l ∈ allL, l = (List.range 5).filter fun d => l.contains d := by decide +kernel
theorem allL_ext {l1 l2 : List Nat} (h1 : l1 ∈ allL) (h2 : l2 ∈ allL) (h : ∀ d, d ∈ l1 ↔ d ∈ l2) : l1 = l2 := by
  rw [allL_rise l1 h1, allL_rise l2 h2]
  refine List.filter_congr fun d _ => ?_
  have := h d
  cases e1 : l1.contains d <;> cases e2 : l2.contains d <;> simp_all
theorem mem_insL {v d : Nat} {l : List Nat} (hl : l ∈ allL) (hv : v < 5) : d ∈ insL v l ↔ d ∈ l ∨ d = v := by
  unfold insL
  rw [List.mem_filter, List.mem_range, Bool.or_eq_true, beq_iff_eq, List.contains_iff_mem]
  constructor
  · exact fun h => h.2
  · rintro (h | rfl)
    · exact ⟨allL_lt l hl d h, .inl h⟩
    · exact ⟨hv, .inr rfl⟩
theorem ins_allL (v : Nat) (l : List Nat) : insL v l ∈ allL := filter_allL _
variable {w : World} {mg mb : Str → Option Value} {A : Around} {s : Shared} {h₀ : Heap}
def loopBody : List Stmt := match sN 11 with | .For _ _ b _ _ => b | _ => []
def lpN (i : Nat) : Stmt := loopBody.getD i (.Pass default)
set_option maxHeartbeats 4000000 in
theorem seg_step {g : Heap} {L DR Dd : Addr} {m : Str → Option Value} {X : List (Addr × Obj)} {oR oK oD : Obj} {rs : List Value} {ws : List Str} {kR k : Nat} {tk : Tok} {l : List Nat} (B : Base w mg mb g) (R : Room A 9)
    (S : St g L m ((L + 3, oK) :: (Dd, oD) :: X) s.heap) (hoK : oK.data = .cell (some (.int (k : Nat) tk))) (hR : (L + 2, oR) ∈ X) (ho : oR.data = .cell (some (.ref DR))) (hDR : (DR, listOf rs.toArray kR) ∈ X) (md : m "due" = some (.ref Dd)) (hB : SetB w oD l)
    (hrs : StrsAre rs ws) (hg : ∀ x ∈ ws, Good x) (hn : ws.length = 9) (hk : k < 4) :
    wpAny (model pw w) A (exec (lpN 0) (lEnv L)) (fun f s' => f = .next ∧ ∃ D' oD' h' t', s' = { s with heap := h', toks := t' } ∧ St g L (fun z => if z = "due" then some (.ref D') else m z) ((D', oD') :: (L + 3, oK) :: (Dd, oD) :: X) h' ∧ SetB w oD' (stepL (resid ws) k l)) Bot s := by
  refine wpQ fun QQ hQ => ?_
  refine aSetComp (L := L) (m := m) (cl := [("row", L + 2), ("k", L + 3)]) B rfl (by rfl) (by rfl) (by decide +kernel) (by rfl) (by decide +kernel) (by kernel_rfl) (by rfl) (fun C x => by rfl) ?_
  walk_at "m.step"
  refine cut _ (iter_set R.handled S (S.N _ (.tail _ (.head _))).1 hB) fun it s₂ F => ?_
  obtain ⟨π, hp, F⟩ := F
  have hl := hB.1
  refine ⟨_, _, _, _, (fun i acc => ∀ d, d ∈ acc ↔ ∃ j, j < i ∧ ∃ e, π[j]? = some e ∧ (d = (e + (resid ws).getD k 0) % 5 ∨ d = (e + (resid ws).getD (k + 4) 0) % 5)), F _ _, ?_, ?_, ?_⟩
  · intro d
    constructor
    · intro h; simp at h
    · rintro ⟨j, hj, _⟩; omega
  · rintro g' C D' i v own m₁ acc oA h t B' hg' hi' ⟨e, te, he, rfl⟩ hJ hBA S'
    have hkc : g'.get? (L + 3) = some oK := hg' _ _ (S.N _ (.head _)).1
    have hrc : g'.get? (L + 2) = some oR := hg' _ _ (S.N _ (.tail _ (.tail _ hR))).1
    have hrow : g'.get? DR = some (listOf rs.toArray kR) := hg' _ _ (S.N _ (.tail _ (.tail _ hDR))).1
    refine aName (env := compEnvC _ [("row", L + 2), ("k", L + 3)] C (lEnv L)) S' (fun h8 S8 => ?_) (by rfl) (by kernel_rfl)
    obtain ⟨m8, S8, mr8⟩ : ∃ m8, St g' C m8 ((D', oA) :: own) h8 ∧ m8 "rest" = some (.int (e : Nat) te) := ⟨_, S8, if_pos rfl⟩
    refine List_ (args2 ?_)
    refine nCell (by rfl : ([(("row" : Str), L + 2), (("k" : Str), L + 3)] : List (Str × Addr)).lookup ("k" : Str) = some (L + 3)) (S8.F.keep _ _ hkc) hoK ?_ (by rfl) (by kernel_rfl)
    walk_at "m.step"
    refine nCell (by rfl : ([(("row" : Str), L + 2), (("k" : Str), L + 3)] : List (Str × Addr)).lookup ("k" : Str) = some (L + 3)) (S8.F.keep _ _ hkc) hoK ?_ (by rfl) (by kernel_rfl)
    walk_at "m.step"
    refine add_int ?_
    refine eNewList S8 (fun ll h9 _ S9 => ?_) (Nat.le_of_ble_eq_true rfl)
    obtain ⟨t4, S9⟩ : ∃ t4, St g' C m8 ((ll, listOf #[.int (k : Nat) tk, .int ((k + 4 : Nat) : Int) t4] 0) :: (D', oA) :: own) h9 := ⟨_, S9⟩
    have he5 : e < 5 := allL_lt l hl e (hp.mem_iff.mp (List.mem_of_getElem? he))
    refine inner_list (items := #[.int (k : Nat) tk, .int ((k + 4 : Nat) : Int) t4]) R.handled S9.swap (fun h hh => ⟨_, hh _ (.head _), rfl, 0, rfl⟩) hBA (fun it v => by rfl)
      (fun j m' l' => m' "rest" = some (.int (e : Nat) te) ∧ l' = (([(e + (resid ws).getD k 0) % 5, (e + (resid ws).getD (k + 4) 0) % 5] : List Nat).take j).foldl (fun a d => insL d a) acc) ⟨mr8, rfl⟩ ?_ ?_
    · rintro j v it o oA2 m₂ l' h t hv ⟨mr, rfl⟩ S2
      obtain ⟨p, tp, rfl, hp9, hpl⟩ : ∃ (p : Nat) (tp : Tok), v = .int (p : Nat) tp ∧ p < 9 ∧ ([(e + (resid ws).getD k 0) % 5, (e + (resid ws).getD (k + 4) 0) % 5] : List Nat)[j]? = some ((e + (resid ws).getD p 0) % 5) := by
        match j with
        | 0 =>
          have q : Value.int (k : Nat) tk = v := by simpa using hv
          exact ⟨k, tk, q.symm, by omega, rfl⟩
        | 1 =>
          have q : Value.int ((k + 4 : Nat) : Int) t4 = v := by simpa using hv
          exact ⟨k + 4, t4, q.symm, by omega, rfl⟩
        | j + 2 => simp at hv
      refine aName (env := compEnvC _ [("row", L + 2), ("k", L + 3)] C (lEnv L)) S2 (fun h3 S3 => ?_) (by rfl) (by kernel_rfl)
      obtain ⟨m3, S3, mr3, mp3⟩ : ∃ m3, St g' C m3 ((it, o) :: (D', oA2) :: (ll, listOf #[.int (k : Nat) tk, .int ((k + 4 : Nat) : Int) t4] 0) :: own) h3 ∧ m3 "rest" = some (.int (e : Nat) te) ∧ m3 "place" = some (.int (p : Nat) tp) := ⟨_, S3, by walk_at "m.look", if_pos rfl⟩
      walk_at "m.step"
      walk_at "m.step"
      refine nLocal S3 mr3 ?_ (by rfl) (by kernel_rfl)
      refine eCall (nGlobal S3 B' (by rfl : nsIn (K w.params) mainGlobals "_law_left" = some (some (.ref 271))) ?_ (by rfl) (by rfl) (by kernel_rfl))
      refine callWith_fn (by rfl) (by rfl) (args1 ?_)
      walk_at "m.step"
      refine nCell (by rfl : ([(("row" : Str), L + 2), (("k" : Str), L + 3)] : List (Str × Addr)).lookup ("row" : Str) = some (L + 2)) (S3.F.keep _ _ hrc) ho ?_ (by rfl) (by kernel_rfl)
      refine nLocal S3 mp3 ?_ (by rfl) (by kernel_rfl)
      obtain ⟨tw, hget⟩ := strs_get hrs p (by omega)
      refine item_litK (vs := rs) (k := ((p : Nat) : Int)) ⟨_, S3.F.keep _ _ hrow, rfl, kR, rfl⟩ (by omega) (by rw [← strs_len hrs] at hn; simp; omega) (by rw [Int.toNat_natCast]; exact hget) ?_ (by with_unfolding_all rfl)
      refine kw0 ⟨⟨271, _, _, rfl, S3.F.keep _ _ (B'.X _ _ (by rfl : (K w.params).lookup 271 = some (ob271 w.params))), rfl⟩, ?_⟩
      refine call_post (left_good B' S3.F.keep (Room.mono R (by decide)) (hg _ (List.getElem_mem _))) ?_
      rintro v h5 t5 hz5 hk5 ⟨u5, rfl⟩
      have S5 := S3.keeps (fun b o e => hk5 b o (by simp) e)
      refine add_int ?_
      walk_at "m.step"
      refine mod_int' (by decide) ?_
      have hr := resid_get (ws := ws) (i := p) (by omega)
      have hq := (left_nat (ws[p]'(by omega))).1
      have hval : (((e : Nat) : Int) + left (ws[p]'(by omega))).fmod 5 = (((e + (resid ws).getD p 0) % 5 : Nat) : Int) := by
        rw [hr, hq, Int.fmod_eq_emod_of_nonneg _ (by decide)]
        omega
      rw [hval]
      refine ⟨_, _, m3, h5, _, rfl, Nat.mod_lt _ (by decide), rfl, S5, mr3, ?_⟩
      rw [List.take_add_one, hpl, List.foldl_append]
      rfl
    · rintro m₂ oA2 l2 h t ⟨_, rfl⟩ hB2 S2
      refine ⟨m₂, oA2, _, h, t, rfl, S2.swap.tail, hB2, ?_⟩
      intro d
      have hacc := hBA.1
      show d ∈ insL ((e + (resid ws).getD (k + 4) 0) % 5) (insL ((e + (resid ws).getD k 0) % 5) acc) ↔ _
      rw [mem_insL (ins_allL _ _) (Nat.mod_lt _ (by decide)), mem_insL hacc (Nat.mod_lt _ (by decide)), hJ d]
      constructor
      · rintro ((⟨j, hj, z⟩ | z) | z)
        · exact ⟨j, by omega, z⟩
        · exact ⟨i, by omega, e, he, .inl z⟩
        · exact ⟨i, by omega, e, he, .inr z⟩
      · rintro ⟨j, hj, e', he', z⟩
        by_cases q : j < i
        · exact .inl (.inl ⟨j, q, e', he', z⟩)
        · have : j = i := by omega
          subst this
          rw [he] at he'
          cases he'
          rcases z with z | z
          · exact .inl (.inr z)
          · exact .inr z
  · intro D' oD' l' h t S' hB' hJ
    have hJ : ∀ d, d ∈ l' ↔ ∃ j, j < l.length ∧ ∃ e, π[j]? = some e ∧ (d = (e + (resid ws).getD k 0) % 5 ∨ d = (e + (resid ws).getD (k + 4) 0) % 5) := hJ
    refine hQ _ _ ⟨rfl, D', oD', h, t, rfl, S', ?_⟩
    have e : l' = stepL (resid ws) k l := by
      refine allL_ext hB'.1 (filter_allL _) fun d => ?_
      rw [hJ d]
      unfold stepL
      rw [List.mem_filter, List.mem_range, List.any_eq_true]
      constructor
      · rintro ⟨j, hj, e, he, z⟩
        refine ⟨by rcases z with z | z <;> (rw [z]; exact Nat.mod_lt _ (by decide)), e, hp.mem_iff.mp (List.mem_of_getElem? he), ?_⟩
        rw [Bool.or_eq_true, beq_iff_eq, beq_iff_eq]
        exact z.imp Eq.symm Eq.symm
      · rintro ⟨_, e, he, z⟩
        obtain ⟨j, hj, rfl⟩ := List.getElem_of_mem (hp.mem_iff.mpr he)
        rw [Bool.or_eq_true, beq_iff_eq, beq_iff_eq] at z
        exact ⟨j, by rw [← hp.length_eq]; exact hj, _, List.getElem?_eq_getElem hj, z.imp Eq.symm Eq.symm⟩
    rw [← e]; exact hB'
end
section
theorem name_lay : ∀ d, d < 5 → PyData.strOk (nameS d) = true := by decide +kernel
theorem due_lt {r : List Nat} {k : Nat} : ∀ d ∈ dueL r (k + 1), d < 5 := fun d hd => by
  rw [due_succ] at hd
  unfold stepL at hd
  exact List.mem_range.mp (List.mem_filter.mp hd).1
theorem tab_small (r : List Nat) (k : Nat) : (tabN r k).length ≤ 5 := by
  have h := tab_nodup r k
  have h5 : ∀ x ∈ (tabN r k).map (·.1), x < 5 := fun x hx => by
    obtain ⟨e, he, rfl⟩ := List.mem_map.mp hx
    exact (tabN_ok r k e he).1
  have p : ((tabN r k).map (·.1)).Perm ((List.range 5).filter fun d => ((tabN r k).map (·.1)).contains d) := by
    refine (List.perm_ext_iff_of_nodup h (List.Pairwise.filter _ List.nodup_range)).mpr fun a => ?_
    rw [List.mem_filter, List.mem_range, List.contains_iff_mem]
    exact ⟨fun ha => ⟨h5 a ha, ha⟩, fun ha => ha.2⟩
  have := List.length_filter_le (fun d => ((tabN r k).map (·.1)).contains d) (List.range 5)
  rw [← p.length_eq, List.length_map, List.length_range] at this
  exact this
variable {w : World} {mg mb : Str → Option Value} {A : Around} {s : Shared} {h₀ : Heap}
set_option maxHeartbeats 4000000 in
theorem seg_if {g : Heap} {L Dd hx : Addr} {m : Str → Option Value} {X : List (Addr × Obj)} {oK oD : Obj} {r : List Nat} {k : Nat} {tk : Tok} (B : Base w mg mb g) (R : Room A 9)
    (S : St g L m ((L + 3, oK) :: (Dd, oD) :: X) s.heap) (hoK : oK.data = .cell (some (.int (k : Nat) tk))) (md : m "due" = some (.ref Dd)) (mt : m "table" = some (.ref hx)) (hB : SetB w oD (dueL r (k + 1))) (T : TabIn w.params X hx (tabS (tabN r (k + 1))))
    (hok : okRow r = true) (hk : k < 4) :
    wpAny (model pw w) A (exec (lpN 1) (lEnv L)) (fun f s' => f = .next ∧ ∃ h' t', s' = { s with heap := h', toks := t' } ∧ St g L m ((L + 3, oK) :: (Dd, oD) :: X) h') Bot s := by
  refine wpQ fun QQ hQ => ?_
  obtain ⟨hlen2, huniq⟩ := ok_round hok hk
  have hX : ∀ p ∈ X, s.heap.get? p.1 = some p.2 := fun p hp => (S.N p (.tail _ (.tail _ hp))).1
  obtain ⟨hl, rs, kk, TX, hml⟩ := T
  have Tb := TX.tab hX (hX _ hml)
  have Rw := TX.rows.rows hX
  obtain ⟨hd, th, nn, i1, i2⟩ := TX.inst
  show wpAny _ _ (exec (.If _ _ _ _) _) _ _ _
  walk_at "m.step"
  refine isTrue_or ?_
  walk_at "m.step"
  refine eCall (eBuiltin (v := .builtin "sorted") S B (by rfl) (by kernel_rfl) (by decide) ?_ (by kernel_rfl) (by kernel_rfl))
  refine callWith_val (by rfl) (by rfl) (fun a e => nomatch e) (args1 ?_)
  refine eMeth ?_
  walk_at "m.step"
  refine method_inst S.F B.X (⟨hX _ i1, rfl, rfl, hX _ i2⟩) (by kernel_rfl) (by rfl : findIn (K w.params) (.ref 253) "keys" = some (some (.ref 205))) (by kernel_rfl) (by rfl) ?_
  refine callWith_fn (by rfl) (by rfl) (args0 (kw0 ⟨⟨205, _, _, rfl, S.F.keep _ _ (B.X _ _ (by rfl : (K w.params).lookup 205 = some (ob205 w.params))), rfl⟩, ?_⟩))
  refine call_post (keys_spec B S.F.keep (Room.mono R (by decide)) Tb Rw (by unfold tabS; rw [List.length_map]; have := tab_small r (k + 1); omega)) ?_
  rintro v h2 t2 hz2 hk2 ⟨D, vs, kD, rfl, g1, g2, g3⟩
  have S2 : St g L m ((D, listOf vs.toArray kD) :: (L + 3, oK) :: (Dd, oD) :: X) h2 := S.made (S.keeps fun b o e => hk2 b o (by simp) e) rfl g1 g3
  have hvl := strs_len g2
  have hkl : ((tabS (tabN r (k + 1))).map (·.1)).length ≤ 5 := by unfold tabS; rw [List.length_map, List.length_map]; exact tab_small _ _
  refine kw0 (sorted_N_str S2.F S2.N ⟨_, S2.getHead, rfl, kD, rfl⟩ g2 (by omega) fun h3 vs' ss' e3 F3 N3 hs3 hp3 hsrt => ?_)
  have hss := huniq ss' hp3 hsrt
  subst hss
  generalize eD2 : h2.objs.size + 1 = D2 at N3
  have S3 : St g L m ((D2, listOf vs'.toArray e3) :: (D, listOf vs.toArray kD) :: (L + 3, oK) :: (Dd, oD) :: X) h3 := ⟨F3, N3, by
    rw [List.map_cons, List.nodup_cons]
    refine ⟨fun q => ?_, S2.nd⟩
    obtain ⟨p, hp, e⟩ := List.mem_map.mp q
    have z := Heap.lt_size (S2.N p hp).1
    rw [show p.1 = D2 from e, ← eD2] at z
    exact absurd z (Nat.not_lt.mpr (Nat.le_succ _))⟩
  have hdne : dueL r (k + 1) ≠ [] := fun q => by rw [q] at hlen2; simp at hlen2
  refine eListComp (L := L) (m := m) (cl := []) B (by rfl) (by decide +kernel) (by rfl) (by decide +kernel) ?_
  refine eCall (eBuiltin (v := .builtin "sorted") S3 B (by rfl) (by kernel_rfl) (by decide) ?_ (by kernel_rfl) (by kernel_rfl))
  refine callWith_val (by rfl) (by rfl) (fun a e => nomatch e) (args1 ?_)
  walk_at "m.step"
  refine kw0 (sorted_set R.handled S3 (S3.N (Dd, oD) (by simp)).1 hB hdne fun D4 is c4 h4 t4 S4 hI4 => ?_)
  have hil := hI4.length
  rw [List.length_map] at hil
  have hl5 := allL_len _ hB.1
  refine cut _ (iter_list (items := is.toArray) R.handled S4 ⟨_, S4.getHead, rfl, c4, rfl⟩ fun it v i s₁ P E hI hP => wpAny_pure hP) fun it s₂ F => ⟨_, _, _, _, (fun i ys => StrsAre ys.toList (((dueL r (k + 1)).map nameS).take i)), F, ?_, ?_, ?_, ?_⟩
  · rw [List.size_toArray, hil]; omega
  · exact .nil
  · intro g' C D' i v own m₁ ys k' h t B' hg' hi' hP hJ S'
    obtain ⟨x, u, hx, rfl⟩ := ints_get hI4 i v (by simpa using hP)
    rw [List.getElem?_map] at hx
    obtain ⟨d, hd, rfl⟩ := Option.map_eq_some_iff.mp hx
    have hd5 := due_lt d (List.mem_of_getElem? hd)
    obtain ⟨f1, f2, f3, f4, f5⟩ := name_facts d hd5
    refine aName (env := compEnvC _ _ C (lEnv L)) S' (fun h8 S8 => ?_) (by rfl) (by kernel_rfl)
    refine wpAny_tests_nil ?_
    rw [if_pos rfl]
    walk_at "m.step"
    walk_at "m.step"
    refine eCall (nBuiltin (v := .type "str") S8 B' (by rfl) (by kernel_rfl) (by decide) ?_ (by rfl) (by rfl) (by rfl) (by kernel_rfl))
    refine callWith_val (by rfl) (by rfl) (fun a e => nomatch e) (args1 ?_)
    refine nLocal S8 (by walk_at "m.look") ?_ (by rfl) (by kernel_rfl)
    refine kw0 (strD (by omega) ?_)
    refine add_str (fun t6 tk6 => ?_) (by
      have : (nameS d).length = ("rest-" : Str).length + (encD d).length := Str.length_append _ _
      simp only [sizeLine]; omega)
    refine ⟨_, h8, _, rfl, S8, ?_⟩
    show StrsAre _ _
    rw [Array.toList_push, List.take_add_one, List.getElem?_map, hd]
    exact strs_append hJ (.cons _ _ .nil)
  · intro DN ys k' h t S' hJ
    have hJ : StrsAre _ _ := hJ
    rw [List.take_of_length_le (by rw [List.length_map, List.size_toArray, hil]; exact Nat.le_refl _)] at hJ
    have hlay : ∀ x ∈ (dueL r (k + 1)).map nameS, PyData.strOk x = true := fun x hx => by
      obtain ⟨d, hd, rfl⟩ := List.mem_map.mp hx
      exact name_lay d (due_lt d hd)
    refine ne_strs (xs := vs') (ys := ys.toList) ⟨_, (S'.N (D2, listOf vs'.toArray e3) (by simp)).1, rfl, e3, rfl⟩ ⟨_, S'.getHead, rfl, k', by rw [Array.toArray_toList]⟩ hs3 hJ hlay hlay (by have := R.units; show A.units + 64 < cLine; omega) ?_
    rw [decide_eq_true rfl]
    walk_at "m.step"
    rw [if_neg (by decide)]
    have S5 : St g L m ((L + 3, oK) :: (Dd, oD) :: X) h := S'.tail.tail.tail.tail
    refine isTrue_or ?_
    walk_at "m.step"
    refine eCall (eBuiltin (v := .builtin "len") S5 B (by rfl) (by kernel_rfl) (by decide) ?_ (by kernel_rfl) (by kernel_rfl))
    refine callWith_val (by rfl) (by rfl) (fun a e => nomatch e) (args1 ?_)
    walk_at "m.step"
    refine kw0 (len_set S5.swap hB fun u t' => ?_)
    walk_at "m.step"
    refine nCell (by rfl : (lEnv L).cells.lookup ("k" : Str) = some (L + 3)) S5.getHead hoK ?_ (by rfl) (by kernel_rfl)
    walk_at "m.step"
    refine add_int ?_
    refine lt_int ?_
    walk_at "m.step"
    rw [if_neg (by simp; omega)]
    refine isTrue_or_nil ?_
    rw [if_neg (by decide)]
    refine wpAny_execs_nil ?_
    exact hQ _ _ ⟨rfl, h, _, rfl, S5⟩
end
section
theorem St.lose {g h h' : Heap} {L a : Addr} {o : Obj} {m : Str → Option Value} {X : List (Addr × Obj)} (S : St g L m ((a, o) :: X) h) (k : ∀ b ob, b ≠ a → h.get? b = some ob → h'.get? b = some ob) : St g L m X h' := by
  have e : ownOf h [a] = [(a, o)] := by
    show [(a, (h.get? a).getD default)] = _
    rw [S.getHead]; rfl
  exact St.drops (wr := [a]) (by rw [e]; exact S) fun b ob nb eb => k b ob (by simpa using nb) eb
variable {w : World} {mg mb : Str → Option Value} {A : Around} {s : Shared} {h₀ : Heap}
set_option maxHeartbeats 4000000 in
theorem seg_loop {g : Heap} {L xl dl xq pl DR Dd : Addr} {m : Str → Option Value} {X : List (Addr × Obj)} {oR oK oD : Obj} {rs : List Value} {ws : List Str} {t1 t2 t3 t4 tw u : Tok} {ln n kp kR : Nat} (B : Base w mg mb g) (R : Room A 12)
    (S : St g L m ((pl, listOf #[] kp) :: (L + 3, oK) :: (Dd, oD) :: X) s.heap) (hI : s.heap.get? xl = some (instObj 103 dl)) (hDl : (dl, lexD w.params t1 t2 t3 t4 (.int ((ln : Nat) : Int) u) (.ref xq) tw pl n) ∈ X) (hoK : oK.data = .cell none)
    (hR : (L + 2, oR) ∈ X) (ho : oR.data = .cell (some (.ref DR))) (hDR : (DR, listOf rs.toArray kR) ∈ X) (ml : m "lexer" = some (.ref xl)) (md : m "due" = some (.ref Dd)) (hB : SetB w oD (dueL (resid ws) 0))
    (hrs : StrsAre rs ws) (hg : ∀ x ∈ ws, Good x) (hn : ws.length = 9) (hok : okRow (resid ws) = true) :
    wpAny (model pw w) A (exec (sN 11) (lEnv L)) (fun f s' => f = .next ∧ ∃ m' hx Y h' t', s' = { s with heap := h', toks := t' } ∧ St g L m' (Y ++ X) h' ∧ m' "table" = some (.ref hx) ∧ TabIn w.params Y hx (tabS (tabN (resid ws) 4))) Bot s := by
  refine wpQ fun QQ hQ => ?_
  have hX : ∀ p ∈ X, s.heap.get? p.1 = some p.2 := fun p hp => (S.N p (.tail _ (.tail _ (.tail _ hp)))).1
  show wpAny _ _ (exec (.For _ _ _ [] _) _) _ _ _
  refine eFor ?_
  refine eCall (eBuiltin (v := .type "enumerate") S B (by rfl) (by kernel_rfl) (by decide) ?_ (by kernel_rfl) (by kernel_rfl))
  refine callWith_val (by rfl) (by rfl) (fun a e => nomatch e) (args1 ?_)
  refine eCall (eGlobal S B (by rfl : nsIn (K w.params) mainGlobals "_law_rounds" = some (some (.ref 276))) ?_ (by kernel_rfl) (by kernel_rfl))
  refine callWith_fn (by rfl) (by rfl) (args2 ?_)
  walk_at "m.step"
  refine nCell (by rfl : (lEnv L).cells.lookup ("row" : Str) = some (L + 2)) (hX _ hR) ho ?_ (by rfl) (by kernel_rfl)
  refine kw0 ⟨⟨276, _, _, rfl, S.F.keep _ _ (B.X _ _ (by rfl : (K w.params).lookup 276 = some (ob276 w.params))), rfl⟩, ?_⟩
  have hrp : DR ≠ pl := fun q => by
    have nd := S.nd
    rw [List.map_cons, List.nodup_cons] at nd
    exact nd.1 (q ▸ List.mem_map_of_mem (f := (·.1)) (.tail _ (.tail _ hDR)))
  have S' : St g L m ([(pl, listOf #[] kp)] ++ ((L + 3, oK) :: (Dd, oD) :: X)) s.heap := S
  refine call_post (rounds_spec (lrow := DR) B S.F.keep (Room.mono R (by decide)) hI (hX _ hDl) (hX _ hDR) hrp S'.owns hrs hg hn) ?_
  rintro v h2 t2' hz2 hk2 ⟨D, ts, kk, fixed, rfl, hF, h4, hall⟩
  have S2 : St g L m ((L + 3, oK) :: (Dd, oD) :: X) h2 := S.lose fun b ob nb e => hk2 b ob (by simpa using nb) e
  have S3 : St g L m (((D, listOf ts.toArray kk) :: fixed) ++ ((L + 3, oK) :: (Dd, oD) :: X)) h2 := S.tail.madeAll S2 rfl hF
  have S4 : St g L m ((L + 3, oK) :: (Dd, oD) :: (((D, listOf ts.toArray kk) :: fixed) ++ X)) h2 := S3.permP (((List.perm_middle (l₁ := (D, listOf ts.toArray kk) :: fixed) (a := (L + 3, oK)) (l₂ := (Dd, oD) :: X)).trans ((List.perm_middle (l₁ := (D, listOf ts.toArray kk) :: fixed) (a := (Dd, oD)) (l₂ := X)).cons _)).symm)
  generalize eY : ((D, listOf ts.toArray kk) :: fixed) ++ X = Y at S4
  have hDY : (D, listOf ts.toArray kk) ∈ Y := by rw [← eY]; exact .head _
  have hfY : ∀ p ∈ fixed, p ∈ Y := fun p hp => by rw [← eY]; exact .tail _ (List.mem_append_left _ hp)
  have hXY : ∀ p ∈ X, p ∈ Y := fun p hp => by rw [← eY]; exact .tail _ (List.mem_append_right _ hp)
  have hsz : ts.toArray.size = 4 := by rw [List.size_toArray, h4]
  refine kw0 (eForEnum (n := kk) (s := { s with heap := h2, toks := t2' }) R.handled S4 (S4.N (D, listOf ts.toArray kk) (.tail _ (.tail _ hDY))).1 rfl rfl
    (fun i m₁ news₁ => ∃ (oK : Obj) (c : Option Value) (Dd : Addr) (oD : Obj), news₁ = (L + 3, oK) :: (Dd, oD) :: Y ∧ oK.data = .cell c ∧ m₁ "due" = some (.ref Dd) ∧ SetB w oD (dueL (resid ws) i) ∧ ∀ j, i = j + 1 → ∃ hx, ts[j]? = some (.ref hx) ∧ m₁ "table" = some (.ref hx))
    ⟨oK, none, Dd, oD, rfl, hoK, md, hB, fun j hj => by omega⟩ ?_ ?_ ?_)
  · rintro i m₁ news₁ h ⟨oK, c, Dd, oD, rfl, _⟩ S5
    exact (S5.N (D, listOf ts.toArray kk) (.tail _ (.tail _ hDY))).1
  · rintro i T x tv own m₁ news₁ h t hi hx hT ⟨oK, c, Dd, oD, rfl, hoK, md, hB, _⟩ S5
    rw [hsz] at hi
    obtain ⟨hxa, hxe, hTab⟩ := hall i hi
    have ex : x = .ref hxa := by
      have : ts[i]? = some x := by simpa using hx
      rw [hxe] at this
      exact (Option.some.inj this).symm
    subst ex
    have S6 : St g L m₁ ((L + 3, oK) :: (Dd, oD) :: (Y ++ own)) h := S5.permP (List.perm_append_comm (l₁ := (L + 3, oK) :: (Dd, oD) :: Y) (l₂ := own))
    refine aPairC (env := lEnv L) R.handled S6 hT hoK (by rfl) (fun h7 o7 t7 S7 hd7 => ?_) (by rfl) (by kernel_rfl) (by kernel_rfl)
    obtain ⟨m7, S7, mt7, md7⟩ : ∃ m7, St g L m7 ((L + 3, o7) :: (Dd, oD) :: (Y ++ own)) h7 ∧ m7 "table" = some (.ref hxa) ∧ m7 "due" = some (.ref Dd) := ⟨_, S7, if_pos rfl, by rw [if_neg (by decide)]; exact md⟩
    have hX7 : ∀ p ∈ X, p ∈ Y ++ own := fun p hp => List.mem_append_left _ (hXY p hp)
    refine wpAny_execs_cons (cut _ (seg_step (k := i) B (Room.mono R (by decide)) S7 hd7 (hX7 _ hR) ho (hX7 _ hDR) md7 hB hrs hg hn hi) ?_)
    rintro f s8 ⟨rfl, D', oD', h8, t8, rfl, S8, hB8⟩
    rw [← due_succ] at hB8
    dsimp only
    have S9 : St g L (fun z => if z = "due" then some (.ref D') else m7 z) ((L + 3, o7) :: (D', oD') :: (Y ++ own)) h8 := (S8.permP ((List.perm_middle (l₁ := [(D', oD'), (L + 3, o7)]) (a := (Dd, oD)) (l₂ := Y ++ own))).symm).tail.swap
    obtain ⟨m9, S9, mt9, md9⟩ : ∃ m9, St g L m9 ((L + 3, o7) :: (D', oD') :: (Y ++ own)) h8 ∧ m9 "table" = some (.ref hxa) ∧ m9 "due" = some (.ref D') := ⟨_, S9, by rw [if_neg (by decide)]; exact mt7, if_pos rfl⟩
    refine wpAny_execs_cons (cut _ (seg_if (k := i) (X := Y ++ own) B (Room.mono R (by decide)) S9 hd7 md9 mt9 hB8 (hTab.mono fun p hp => List.mem_append_left _ (hfY p hp)) hok hi) ?_)
    rintro f s10 ⟨rfl, h10, t10, rfl, S10⟩
    dsimp only
    refine wpAny_execs_nil ?_
    refine ⟨m9, _, h10, t10, rfl, ⟨o7, _, D', oD', rfl, hd7, md9, hB8, fun j hj => ?_⟩, S10.permP ?_⟩
    · have : j = i := by omega
      subst this
      exact ⟨hxa, hxe, mt9⟩
    · exact List.perm_append_comm (l₁ := own) (l₂ := (L + 3, o7) :: (D', oD') :: Y)
  · rintro m₁ news₁ h t ⟨oK, c, Dd, oD, rfl, hoK, md, hB, hlast⟩ S5
    rw [hsz] at hlast
    obtain ⟨hx, q1, q2⟩ := hlast 3 rfl
    obtain ⟨hxa, q3, q4⟩ := hall 3 (by decide)
    rw [q1] at q3
    cases q3
    refine hQ _ _ ⟨rfl, m₁, hx, (D, listOf ts.toArray kk) :: fixed, h, t, rfl, ?_, q2, q4.mono fun p hp => .tail _ hp⟩
    rw [eY]
    exact S5.tail.tail
end
section
/-! set(a text) -/
section
variable {w : World} {A : Around} {E : Value → Shared → Prop} {s : Shared}
theorem set_str_loop {R : Result → Shared → Prop} {I : Addr} {fp wr : List Addr} {zs : List Str} {P : Nat → Value → Prop} {Sx : Nat → Heap → Prop} (W : Walks pw w A.in1 I fp wr zs.length P Sx) (hP : ∀ i v, P i v → ∃ t, ∃ h : i < zs.length, v = .str zs[i] t) (hnd : zs.Nodup) (D : Addr) (hDf : D ∉ fp) (hb : zs.length + 1 < scanBound) :
    ∀ (k i : Nat) (s : Shared), zs.length - i = k → i ≤ zs.length → Sx i s.heap → s.heap.SetOf (strKind pw w) D (fun y => (zs.take i).contains y) i →
      (∀ h' t', (∀ b o, b ≠ D → b ∉ wr → s.heap.get? b = some o → h'.get? b = some o) → h'.SetOf (strKind pw w) D (fun y => zs.contains y) zs.length → R (.ok (.ret .none)) { s with heap := h', toks := t' }) →
      codeAny (model pw w) A (.builtin "set.update.loop" ⟨[.ref D, .ref I], []⟩) R s := by
  have hDw : D ∉ wr := fun h => hDf (W.sub _ h)
  intro k
  induction k with
  | zero =>
    intro i s hk hi hst hS hR
    have e : i = zs.length := by omega
    subst e
    refine codeAny_builtin F.entry_set_update_loop ?_
    rw [Around.under_plainId F.plain_set_update_loop _]
    show wpAny _ A.in1 (pyNext (.ref I) >>= _) _ _ s
    refine wpAny_bind (W.done s _ _ hst fun h' t' hk' => ?_)
    refine wpAny_pure (hR h' t' (fun b o _ nb e => hk' b o nb e) ?_)
    rw [List.take_length] at hS
    obtain ⟨o, es, ep, t, ho, rest⟩ := hS
    exact ⟨o, es, ep, t, hk' _ _ hDw ho, rest⟩
  | succ k ih =>
    intro i s hk hi hst hS hR
    have hlt : i < zs.length := by omega
    refine codeAny_builtin F.entry_set_update_loop ?_
    rw [Around.under_plainId F.plain_set_update_loop _]
    show wpAny _ A.in1 (pyNext (.ref I) >>= _) _ _ s
    refine wpAny_bind (W.item i s _ _ hlt hst fun v h' t' hPv hst' hk' => ?_)
    obtain ⟨t, hi', rfl⟩ := hP i v hPv
    have hS' : h'.SetOf (strKind pw w) D (fun y => (zs.take i).contains y) i := by
      obtain ⟨o, es, ep, tb, ho, rest⟩ := hS
      exact ⟨o, es, ep, tb, hk' _ _ hDw ho, rest⟩
    show wpAny _ A.in1 (holding [Value.str zs[i] t] (setAdd D (.str zs[i] t)) >>= _) _ _ _
    refine wpAny_bind (wpAny_holding ?_)
    unfold setAdd
    refine wpAny_holding ?_
    refine wpAny_bind ((strKind pw w).pyHash (k := zs[i]) (strKind_is _ _ _ _) ?_)
    have hnew : (zs.take i).contains zs[i] = false := by
      cases q : (zs.take i).contains zs[i] with
      | false => rfl
      | true =>
        rw [List.contains_iff_mem] at q
        obtain ⟨j, hj, e⟩ := List.getElem_of_mem q
        rw [List.length_take] at hj
        rw [List.getElem_take] at e
        have := (List.getElem_inj hnd).mp e
        omega
    refine wpAny_setAddHashed_of (knd := strKind pw w) (s := { s with heap := h', toks := t' + 1 }) (strKind_is _ _ _ _) rfl hS' (by omega) fun h2 hsb hS2 => ?_
    have hSi : h2.SetOf (strKind pw w) D (fun y => (zs.take (i + 1)).contains y) (i + 1) := by
      refine PyProof.Rows.SetOf_congr hS2 (fun y => ?_) (by rw [hnew]; rfl)
      have e : zs.take (i + 1) = zs.take i ++ [zs[i]] := by rw [List.take_add_one, List.getElem?_eq_getElem hlt]; rfl
      rw [e, Bool.eq_iff_iff]
      simp only [Bool.or_eq_true, decide_eq_true_eq, List.contains_iff_mem, List.mem_append, List.mem_singleton]
    refine wpAny_pure ⟨plainId_quiet F.plain_set_update_loop _, ih (i + 1) _ (by omega) hlt (W.frame _ _ _ hst' fun b hb o e => ?_) hSi fun h3 t3 hk3 hS3 => ?_⟩
    · rw [hsb.2 b (fun h => hDf (h ▸ hb))]; exact e
    · refine hR h3 t3 (fun b o nb1 nb2 e => hk3 b o nb1 nb2 ?_) hS3
      rw [show ({ s with heap := h2, toks := t' + 1 } : Shared).heap = h2 from rfl, hsb.2 b nb1]
      exact hk' b o nb2 e
set_option maxHeartbeats 3200000 in
theorem call_set_str {x : Str} {t : Tok} {Q : Value → Shared → Prop} (hh : A.handled = none) (ha : x.cps.all (· < 128) = true) (hnd : (signs x).Nodup) (hb : x.length + 1 < scanBound)
    (h : ∀ (h' : Heap) (tk : Nat), h'.SetOf (strKind pw w) s.heap.objs.size (fun y => (signs x).contains y) x.length → (∀ b o, b < s.heap.objs.size → s.heap.get? b = some o → h'.get? b = some o) → Q (.ref s.heap.objs.size) { s with heap := h', toks := tk }) :
    wpAny (model pw w) A (call (.type "set") [.str x t]) Q E s := by
  obtain ⟨c, tl, hmro⟩ := F.called_set.mro
  have hmade := F.called_set.made
  have hsub := F.called_set.sub
  refine wpAny_call (codeAny_of_tree ?_)
  show wpAny _ _ (callAny (.type "set") _) _ _ _
  refine wpAny_pure ⟨Code.quiet_builtin _ (by decide +kernel), codeAny_builtin F.entry_type_call ?_⟩
  rw [Around.under_plain (weight_type_call_type "set" [.str x t] []) rfl]
  have h1 := F.called_set.notType
  have h2 := F.called_set.canCreate
  have hct := F.typeCall_set_1 (.str x t)
  repeat (any_goals (first | assumption | wp_step))
  refine codeAny_mono (code_set_new_1 (.str x t) (E := E) (Q₁ := fun obj s₁ => ∃ led : Bool, obj = .ref s.heap.objs.size ∧ s₁ = { s with heap := s.heap.push { cls := .type "set", dict := none, data := .set #[] 0 (.fresh 0 0 led) } }) fun led => ⟨led, rfl, rfl⟩) fun r s₁ hr => ?_
  cases r with
  | error e => exact hr
  | ok fl =>
    cases fl with
    | ret obj =>
      obtain ⟨led, rfl, rfl⟩ := hr
      have hS : (s.heap.push { cls := .type "set", dict := none, data := .set #[] 0 (.fresh 0 0 led) }).get? s.heap.objs.size = some { cls := .type "set", dict := none, data := .set #[] 0 (.fresh 0 0 led) } := Heap.get?_push_size _ rfl
      have hT : Shared.TypeIs { s with heap := s.heap.push { cls := .type "set", dict := none, data := .set #[] 0 (.fresh 0 0 led) } } (.ref s.heap.objs.size) "set" := ⟨_, hS, rfl⟩
      have hli := F.called_set.init.lookup
      have hbi := F.called_set.init.bind (.ref s.heap.objs.size)
      repeat (any_goals (first | assumption | wp_step))
      refine codeAny_mono (codeAny_call_builtin (R := wants (fun r s₂ => r = .none ∧ ∃ h' tk, s₂ = { s with heap := h', toks := tk } ∧
          h'.SetOf (strKind pw w) s.heap.objs.size (fun y => (signs x).contains y) x.length ∧ (∀ b o, b < s.heap.objs.size → s.heap.get? b = some o → h'.get? b = some o)) E) F.called_set.init.plain F.entry_set_init (check_set_init_1 hT ?_)) fun r₂ s₂ hr₂ => ?_
      · have hsls := F.sub_str_set
        have hslf := F.sub_str_frozenset
        have hne : (Value.type "str" == Value.type "dict") = false := by decide
        unfold Builtin.«set.__init__» noKeywords Builtin.Frozenset.updateFrom
        generalize hPI : pyIter = PI
        wp_walk
        subst hPI
        refine wpAny_pyIter_ascii ha ?_
        refine wpAny_bind (wpAny_runValue ?_)
        have hh3 : A.in1.in1.in1.handled = none := by simp [hh]
        have hz : (s.heap.push { cls := .type "set", dict := none, data := .set #[] 0 (.fresh 0 0 led) }).objs.size = s.heap.objs.size + 1 := Heap.size_push ..
        refine set_str_loop (zs := signs x) (P := SignAt x) (Sx := fun i h => h.IsStrIter (s.heap.push { cls := .type "set", dict := none, data := .set #[] 0 (.fresh 0 0 led) }).objs.size "str_ascii_iterator" x t i) (wr := [(s.heap.push { cls := .type "set", dict := none, data := .set #[] 0 (.fresh 0 0 led) }).objs.size]) (by rw [signs_length]; exact Walks.strAscii hh3 _ x t) (fun i v hv => ?_) hnd s.heap.objs.size ?_ (by rw [signs_length]; exact hb) ((signs x).length - 0) 0 _ (by omega) (Nat.zero_le _)
          ⟨_, Heap.get?_push_size _ rfl, rfl, rfl⟩ ?_ fun h' t' hk' hS' => ?_
        · obtain ⟨c, u, hc, rfl⟩ := hv
          have hi : i < x.cps.size := (Array.getElem?_eq_some_iff.mp hc).1
          refine ⟨u, by rw [signs_length]; exact hi, ?_⟩
          have e : (signs x)[i]? = some (⟨#[c]⟩ : Str) := by
            unfold signs
            rw [List.getElem?_map, Array.getElem?_toList, hc]; rfl
          rw [List.getElem?_eq_getElem (by rw [signs_length]; exact hi)] at e
          rw [Option.some.inj e]
        · rw [hz]
          simp only [List.mem_singleton]
          exact Nat.ne_of_lt (Nat.lt_succ_self _)
        · exact PyProof.Rows.SetOf_congr ((PyProof.Rows.setObjOf_fresh (knd := strKind pw w) led).setOf (Heap.get?_push_of_some _ hS) (by unfold scanBound; omega)) (fun _ => rfl) rfl
        · refine wpAny_pure ?_
          show wpAny _ _ (ret Value.none) _ _ _
          rw [signs_length] at hS'
          refine wpAny_pure ⟨rfl, h', t', rfl, hS', fun b o hb e => ?_⟩
          refine hk' b o (Nat.ne_of_lt hb) ?_ (Heap.get?_push_of_some _ (Heap.get?_push_of_some _ e))
          rw [hz]
          simp only [List.mem_singleton]
          exact Nat.ne_of_lt (Nat.lt_succ_of_lt hb)
      · cases r₂ with
        | error e => exact hr₂
        | ok fl₂ =>
          cases fl₂ with
          | ret r =>
            obtain ⟨rfl, h', tk, rfl, hS', hk'⟩ := hr₂
            repeat (any_goals (first | assumption | wp_step))
            exact h _ _ hS' hk'
          | _ => exact hr₂.elim
    | _ => exact hr.elim
end
end
section
set_option linter.constructorNameAsVariable false
set_option linter.constructorNameAsVariable false
def numOfW (x : Str) : Int := (PySem.intText? x).getD 0
theorem left_num (x : Str) : left x = (numOfW x).fmod 5 := rfl
theorem num_fmod {ws : List Str} : ∀ p : List Nat, ((p.map fun d => numOfW (ws.getD d "")).sum).fmod 5 = ((p.map fun d => left (ws.getD d "")).sum).fmod 5
  | [] => rfl
  | d :: p => by
    have ih := num_fmod (ws := ws) p
    rw [List.map_cons, List.sum_cons, List.map_cons, List.sum_cons, left_num]
    rw [Int.fmod_eq_emod_of_nonneg _ (by decide), Int.fmod_eq_emod_of_nonneg _ (by decide)] at ih
    rw [Int.fmod_eq_emod_of_nonneg _ (by decide), Int.fmod_eq_emod_of_nonneg _ (by decide), Int.fmod_eq_emod_of_nonneg _ (by decide)]
    omega
theorem enc_inj : ∀ a, a < 9 → ∀ b, b < 9 → encD a = encD b → a = b := by decide +kernel
theorem enc_ascii (p : List Nat) (h : ∀ d ∈ p, d < 9) (hs : signs (enc p) = p.map encD) : (enc p).cps.all (· < 128) = true := by
  rw [Array.all_eq_true]
  intro i hi
  have key : ∀ d, d < 9 → (encD d).cps.all (· < 128) = true := by decide +kernel
  have e : (signs (enc p))[i]? = some (⟨#[(enc p).cps[i]]⟩ : Str) := by
    unfold signs
    rw [List.getElem?_map, Array.getElem?_toList, Array.getElem?_eq_getElem hi]; rfl
  rw [hs, List.getElem?_map] at e
  obtain ⟨d, hd, ed⟩ := Option.map_eq_some_iff.mp e
  have := key d (h d (List.mem_of_getElem? hd))
  rw [ed] at this
  simpa using this
variable {w : World} {mg mb : Str → Option Value} {A : Around} {s : Shared} {h₀ : Heap}
theorem seg_choice {g : Heap} {L hx : Addr} {m : Str → Option Value} {X : List (Addr × Obj)} {r : List Nat} (B : Base w mg mb g) (R : Room A 9)
    (S : St g L m X s.heap) (mt : m "table" = some (.ref hx)) (T : TabIn w.params X hx (tabS (tabN r 4))) (hok : okRow r = true) :
    wpAny (model pw w) A (exec (sN 12) (lEnv L)) (fun f s' => f = .next ∧ ∃ p u h' t', s' = { s with heap := h', toks := t' } ∧ St g L (fun z => if z = "choice" then some (.str (enc p) u) else m z) X h' ∧ p ∈ pathsN 4 ∧ p.length = 5 ∧ p.Nodup ∧ restN r p = 0) Bot s := by
  obtain ⟨e, hf, hm, e5, end_, er⟩ := ok_end hok
  have hX : ∀ p ∈ X, s.heap.get? p.1 = some p.2 := fun p hp => (S.N p hp).1
  obtain ⟨hl, rs, kk, TX, hml⟩ := T
  have Tb := TX.tab hX (hX _ hml)
  have Rw := TX.rows.rows hX
  obtain ⟨hd, th, nn, i1, i2⟩ := TX.inst
  have hes := tabN_ok r 4
  obtain ⟨f1, f2, f3, f4, f5⟩ := name_facts 0 (by decide)
  show wpAny _ _ (exec (.Assign [.Name _ _] _ _) _) _ _ _
  walk_at "m.step"
  refine eMeth ?_
  walk_at "m.step"
  refine method_inst S.F B.X (⟨hX _ i1, rfl, rfl, hX _ i2⟩) (by kernel_rfl) (by rfl : findIn (K w.params) (.ref 253) "get" = some (some (.ref 200))) (by kernel_rfl) (by rfl) ?_
  refine callWith_fn (by rfl) (by rfl) (args1 ?_)
  walk_at "m.step"
  refine kw0 ⟨⟨200, _, _, rfl, S.F.keep _ _ (B.X _ _ (by rfl : (K w.params).lookup 200 = some (ob200 w.params))), rfl⟩, ?_⟩
  have ea : askS 0 = "Rest-0" := by decide +kernel
  rw [ea] at f2 f3
  refine call_post (get_spec (x := "Rest-0") (low := nameS 0) B S.F.keep (Room.mono R (by decide)) Tb Rw f2 (by omega) (nam_of f1) f4 fun e he => ?_) ?_
  · obtain ⟨z, hz, rfl⟩ := List.mem_map.mp he
    obtain ⟨_, _, _, q4, q5⟩ := name_facts z.1 (hes z hz).1
    exact ⟨q5, q4⟩
  rintro v h2 t2 hz2 hk2 hv
  rw [find_name hes (by decide), hf] at hv
  obtain ⟨u, rfl⟩ := hv
  have S2 := S.keeps (fun b o e => hk2 b o (by simp) e)
  refine sLocal (s := { s with heap := h2, toks := t2 }) S2 (fun h3 S3 => ?_) (by kernel_rfl) (by kernel_rfl)
  exact ⟨rfl, e.2, u, h3, _, rfl, S3, (hes e hm).2, e5, end_, er⟩
set_option maxHeartbeats 1000000 in
theorem seg_end {g : Heap} {L DR : Addr} {m : Str → Option Value} {X : List (Addr × Obj)} {oR : Obj} {rs : List Value} {ws : List Str} {kR : Nat} {p : List Nat} {u : Tok} (B : Base w mg mb g) (R : Room A 9)
    (S : St g L m X s.heap) (hR : (L + 2, oR) ∈ X) (ho : oR.data = .cell (some (.ref DR))) (hDR : (DR, listOf rs.toArray kR) ∈ X) (mc : m "choice" = some (.str (enc p) u))
    (hrs : StrsAre rs ws) (hg : ∀ x ∈ ws, Good x) (hn : ws.length = 9) (hp : p ∈ pathsN 4) (h5 : p.length = 5) (hnd : p.Nodup) (hr : restN (resid ws) p = 0) :
    wpAny (model pw w) A (exec (sN 13) (lEnv L)) (fun f s' => f = .ret (.bool true) ∧ ∃ h' t', s' = { s with heap := h', toks := t' } ∧ St g L m X h') Bot s := by
  refine wpQ fun QQ hQ => ?_
  have hsg := path_signs (k := 4) (by decide) hp
  have hdig := fun {d} hd => path_digit (k := 4) (by decide) hp (d := d) hd
  have hlen : (enc p).length = 5 := by rw [← signs_length, hsg, List.length_map, h5]
  have hasc := enc_ascii p (fun d hd => (hdig hd).1) hsg
  have hsnd : (signs (enc p)).Nodup := by
    rw [hsg, List.Nodup, List.pairwise_map]
    refine hnd.imp_of_mem fun {a b} ha hb hab e => hab (enc_inj a (hdig ha).1 b (hdig hb).1 e)
  show wpAny _ _ (exec (.Return (some _) _) _) _ _ _
  walk_at "m.step"
  refine BoolOp_and ?_
  walk_at "m.step"
  refine eCall (eBuiltin (v := .builtin "len") S B (by rfl) (by kernel_rfl) (by decide) ?_ (by kernel_rfl) (by kernel_rfl))
  refine callWith_val (by rfl) (by rfl) (fun a e => nomatch e) (args1 ?_)
  refine eCall (eBuiltin (v := .type "set") S B (by rfl) (by kernel_rfl) (by decide) ?_ (by kernel_rfl) (by kernel_rfl))
  refine callWith_val (by rfl) (by rfl) (fun a e => nomatch e) (args1 ?_)
  walk_at "m.step"
  refine kw0 (call_set_str R.handled hasc hsnd (by rw [hlen]; decide) fun h2 t2 hS hk => ?_)
  have S2 : St g L m X h2 := S.keeps fun b o e => hk b o (Heap.lt_size e) e
  obtain ⟨o2, es2, ep2, tb2, g1, g2, g3, g4, g5, g6, g7, g8⟩ := hS
  rw [hlen] at g8
  refine kw0 (call_len_set (s := { s with heap := h2, toks := t2 }) g1 g2 g3 g7 (by rw [g8]; decide) ?_)
  rw [g8]
  walk_at "m.step"
  refine eq_int ?_
  walk_at "m.step"
  rw [if_pos (by decide)]
  refine BoolOp_and ?_
  walk_at "m.step"
  refine eCall (eBuiltin (v := .builtin "len") S2 B (by rfl) (by kernel_rfl) (by decide) ?_ (by kernel_rfl) (by kernel_rfl))
  refine callWith_val (by rfl) (by rfl) (fun a e => nomatch e) (args1 ?_)
  walk_at "m.step"
  refine kw0 (PySem.P.len_str (by rw [hlen]; decide) ?_)
  rw [hlen]
  walk_at "m.step"
  refine eq_int ?_
  walk_at "m.step"
  rw [if_pos (by decide)]
  refine BoolOp_one ?_
  walk_at "m.step"
  walk_at "m.step"
  refine eCall (eBuiltin (v := .builtin "sum") S2 B (by rfl) (by kernel_rfl) (by decide) ?_ (by kernel_rfl) (by kernel_rfl))
  refine callWith_val (by rfl) (by rfl) (fun a e => nomatch e) (args1 ?_)
  refine eListComp (L := L) (m := m) (cl := [("row", L + 2)]) B (by rfl) (by decide +kernel) (by rfl) (by decide +kernel) ?_
  walk_at "m.step"
  refine cut _ (iter_str (w := w) (g₀ := g) (L := L) (news := X) R.handled S2) fun it s₂ F => ⟨_, _, _, _, (fun i ys => IntsAre ys.toList ((p.map fun d => numOfW (ws.getD d "")).take i)), F, ?_, ?_, ?_, ?_⟩
  · have : (enc p).cps.size = 5 := hlen
    omega
  · exact .nil
  · intro g' C D i v own m₁ ys k' h t B' hg' hi hP hJ S'
    obtain ⟨c, u1, hc1, rfl⟩ := hP
    have hget : (signs (enc p))[i]? = some ⟨#[c]⟩ := by
      simp only [signs, List.getElem?_map, Array.getElem?_toList, hc1, Option.map_some]
    rw [hsg, List.getElem?_map] at hget
    obtain ⟨di, hdi, edi⟩ := Option.map_eq_some_iff.mp hget
    obtain ⟨hd9, hint⟩ := hdig (List.mem_of_getElem? hdi)
    rw [edi] at hint
    have hi9 : di < ws.length := by omega
    obtain ⟨tg, hgv⟩ := strs_get hrs di hi9
    obtain ⟨⟨nw, hnw⟩, hlw⟩ := hg _ (List.getElem_mem hi9)
    refine aName (env := compEnvC _ _ C (lEnv L)) S' (fun h8 S8 => ?_) (by rfl) (by kernel_rfl)
    refine wpAny_tests_nil ?_
    rw [if_pos rfl]
    refine eCall (nBuiltin (v := .type "int") S8 B' (by rfl) (by kernel_rfl) (by decide) ?_ (by rfl) (by rfl) (by rfl) (by kernel_rfl))
    refine callWith_val (by rfl) (by rfl) (fun a e => nomatch e) (args1 (Subscript_ ?_))
    refine nCell (by rfl : ([(("row" : Str), L + 2)] : List (Str × Addr)).lookup ("row" : Str) = some (L + 2)) (S8.F.keep _ _ (hg' _ _ (S2.N _ hR).1)) ho ?_ (by rfl) (by kernel_rfl)
    refine eCall (nBuiltin (v := .type "int") S8 B' (by rfl) (by kernel_rfl) (by decide) ?_ (by rfl) (by rfl) (by rfl) (by kernel_rfl))
    refine callWith_val (by rfl) (by rfl) (fun a e => nomatch e) (args1 (nLocal S8 (by walk_at "m.look") ?_ (by rfl) (by kernel_rfl)))
    refine kw0 (KIN.call_text hint (by show 1 ≤ 640; decide) ?_)
    have hrl := strs_len hrs
    refine item_litK (vs := rs) (k := (di : Nat)) ⟨_, S8.F.keep _ _ (hg' _ _ (S2.N _ hDR).1), rfl, kR, rfl⟩ (by omega) (by omega) (by rw [Int.toNat_natCast]; exact hgv) ?_ (by with_unfolding_all rfl)
    refine kw0 (KIN.call_text hnw hlw ?_)
    refine ⟨_, h8, _, rfl, S8, ?_⟩
    show IntsAre _ _
    rw [Array.toList_push, List.take_add_one, List.getElem?_map, hdi]
    have eg : numOfW (ws.getD di "") = nw := by
      unfold numOfW
      rw [List.getD_eq_getElem?_getD, List.getElem?_eq_getElem hi9]
      show (PySem.intText? ws[di]).getD 0 = nw
      rw [hnw]; rfl
    simp only [Option.map_some, Option.toList_some, eg]
    exact ints_append hJ (.cons _ _ .nil)
  · intro D ys k' h t S' hJ
    have hJ : IntsAre _ _ := hJ
    have hsz : (enc p).cps.size = 5 := hlen
    rw [List.take_of_length_le (by rw [List.length_map, h5, hsz]; exact Nat.le_refl _)] at hJ
    refine kw0 (sumOf R.handled (vs := ys.toList) ⟨_, S'.getHead, rfl, k', by simp⟩ hJ fun h3 tk3 t3 hk3 => ?_)
    have S3 := (S'.tail).keeps hk3
    walk_at "m.step"
    refine mod_int' (by decide) ?_
    rw [num_fmod, rest_fmod fun x hx => by rw [hn]; exact (hdig hx).1, hr]
    walk_at "m.step"
    refine eq_int ?_
    exact hQ _ _ ⟨rfl, h3, _, rfl, S3⟩
end
section
variable {w : World} {mg mb : Str → Option Value} {A : Around} {s : Shared} {h₀ : Heap}
section
variable {α : Type}
theorem p_row {a b c y : α} {F l : List α} : (y :: a :: b :: c :: (F ++ l)).Perm (a :: b :: c :: (F ++ (l ++ [y]))) := by
  have := (List.perm_append_singleton y (a :: b :: c :: (F ++ l))).symm
  simpa using this
theorem p_sort {d l r y : α} {z : List α} : (d :: l :: r :: y :: z).Perm (y :: r :: d :: l :: z) :=
  ((List.perm_append_comm (l₁ := [d, l]) (l₂ := [r, y])).append_right z).trans (List.Perm.swap y r _)
theorem p_loop {p k a b c d e f : α} {F l : List α} : (p :: k :: a :: b :: c :: d :: e :: f :: (F ++ l)).Perm (a :: b :: c :: d :: e :: f :: p :: (F ++ (l ++ [k]))) := by
  have h1 := List.perm_middle (l₁ := [a, b, c, d, e, f]) (a := p) (l₂ := F ++ (l ++ [k]))
  have h2 := (List.perm_append_singleton k (a :: b :: c :: d :: e :: f :: (F ++ l))).symm
  refine List.Perm.trans (List.Perm.cons p ?_) h1.symm
  simpa using h2
end
set_option maxHeartbeats 1000000 in
/-- the law says True -/
theorem law_spec {ls : Addr} {ss : List Value} {script : List Int} {mean : ExcName → Option Value} {lo : List Str} (B : Base w mg mb h₀) (T : Top topProg lo mean mg mb h₀) (C : CodeHd h₀ 263 259) (hk : Sub h₀ s.heap) (R : Room A 13)
    (O : Owns h₀ s.heap [(259, tabObj #[])]) (hl : s.heap.IsList ls ss.toArray) (hi : IntsAre ss script) (hlen : script.length ≤ 63) :
    codeAny (model pw w) A (.call (.ref 281) ⟨[.ref ls], []⟩) (Post [(259, tabObj #[])] s fun v h' => v = .bool true ∧ ∃ ps, h'.get? 259 = some (tabObj ps)) s := by
  refine codeQ fun QQ hQ => ?_
  refine enterCells (st := stm 18) (f := 281) (binds := [("script", .ref ls)]) (by rfl) (by kernel_rfl) (by kernel_rfl) B hk O (Room.mono R (by decide) : Room A 0).depth
    (BindsTo.of_eq (by rfl)) (fun n y hy => by rcases List.mem_singleton.mp hy with rfl; exact .inl (by kernel_rfl)) (by decide +kernel) ?_
  intro g L h₁ tk cells B' hz hg S hcells eL
  have ecl : cellsFrom (L + 1) (fScope (stm 18)).names [] = [(("k" : Str), L + 3), (("row" : Str), L + 2), (("numbers" : Str), L + 1)] := by rfl
  rw [ecl] at hcells
  obtain ⟨o3, o2, o1, rfl, h3, h2, h1⟩ := hcells.three
  have R' : ∀ env, Room (A.deeper env) 12 := fun env => Room.deeper R
  generalize hm : bindL _ _ _ = m at S
  have ms : m "script" = some (.ref ls) := by rw [← hm]; rfl
  clear hm
  rw [ecl]
  have h3 : o3.data = .cell none := h3
  have h2 : o2.data = .cell none := h2
  have h1 : o1.data = .cell none := h1
  have hsub : Sub h₀ g := fun b o e => hg b o (fun q => by
    have q' : b = 259 := by simpa using q
    have := (O.at_ _ (.head _)).2
    rw [q', this] at e; cases e) (hk b o e)
  have hls : g.IsList ls ss.toArray := by
    obtain ⟨oL, e1, e2, e3⟩ := hl
    refine ⟨oL, hg _ _ (fun q => ?_) e1, e2, e3⟩
    have q' : ls = 259 := by simpa using q
    have := (O.at_ _ (.head _)).1
    rw [q'] at e1
    rw [e1] at this
    cases this
    exact nomatch e2
  have S0 : St g L m ((L + 1, o1) :: [(L + 3, o3), (L + 2, o2), (259, tabObj #[])]) h₁ := S.permP (List.perm_middle (l₁ := [(L + 3, o3), (L + 2, o2)]) (a := (L + 1, o1)) (l₂ := [(259, tabObj #[])])).symm
  clear S
  show wpAny (model pw w) (A.deeper (lEnv L)) (execs [sN 0, sN 1, sN 2, sN 3, sN 4, sN 5, sN 6, sN 7, sN 8, sN 9, sN 10, sN 11, sN 12, sN 13] (lEnv L)) _ _ _
  have R' := R' (lEnv L)
  -- numbers, words, written
  refine wpAny_execs_cons (cut _ (seg_numbers B' (Room.mono R' (by decide)) S0 h1 ms hls hi hlen) ?_)
  rintro f s1 ⟨rfl, oN, D, vs, kD, hp1, t1, rfl, S1, hoN, hvs⟩
  dsimp only
  have hn := nums_len script
  generalize numsOf' script = ns at hvs hn
  refine wpAny_execs_cons (cut _ (seg_words B' (Room.mono R' (by decide)) S1 hoN hvs hn) ?_)
  rintro f s2 ⟨rfl, DW, us, kW, hp2, t2, rfl, S2, hus⟩
  dsimp only
  refine wpAny_execs_cons (cut _ (seg_written B' (Room.mono R' (by decide)) S2 hoN (if_pos rfl) hvs hus hn) ?_)
  rintro f s3 ⟨rfl, DX, xs, kX, hp3, t3, rfl, S3, hxs⟩
  dsimp only
  obtain ⟨m3, S3, mw3, mx3⟩ : ∃ m3, St g L m3 ((259, tabObj #[]) :: ([(DX, listOf xs.toArray kX), (DW, listOf us.toArray kW), (L + 1, oN), (D, listOf vs.toArray kD)] ++ [(L + 3, o3)] ++ [(L + 2, o2)])) hp3 ∧ m3 "words" = some (.ref DW) ∧ m3 "written" = some (.ref DX) :=
    ⟨_, S3.permP (List.perm_append_singleton (259, tabObj #[]) [(DX, listOf xs.toArray kX), (DW, listOf us.toArray kW), (L + 1, oN), (D, listOf vs.toArray kD), (L + 3, o3), (L + 2, o2)]).symm, by rw [if_neg (by decide)]; exact if_pos rfl, if_pos rfl⟩
  -- the lexer
  refine wpAny_execs_cons (cut _ (seg_lexer B' (T.keeps hsub) (C.keeps hsub) (Room.mono R' (by decide)) S3 (DX := DX) (xs := xs) (kX := kX) (.head _) mx3 hxs hn) ?_)
  rintro f s4 ⟨rfl, xl, dl, xq, lst, pl, u1, u2, u3, u4, tw, u, n, k, fs, fixed, tab, hp4, t4, rfl, S4, hfs, hLx⟩
  dsimp only
  obtain ⟨m4, S4, mw4, ml4⟩ : ∃ m4, St g L m4 ((L + 2, o2) :: (dl, lexD w.params u1 u2 u3 u4 (.int ((1 : Nat) : Int) u) (.ref xq) tw pl n) :: (lst, listOf fs.toArray k) :: (pl, listOf #[] 0) :: (fixed ++ ((259, tabObj tab) :: [(DX, listOf xs.toArray kX), (DW, listOf us.toArray kW), (L + 1, oN), (D, listOf vs.toArray kD)] ++ [(L + 3, o3)]))) hp4 ∧ m4 "words" = some (.ref DW) ∧ m4 "lexer" = some (.ref xl) :=
    ⟨_, S4.permP p_row, by rw [if_neg (by decide)]; exact mw3, if_pos rfl⟩
  -- row
  refine wpAny_execs_cons (cut _ (seg_row B' S4 h2) ?_)
  rintro f s5 ⟨rfl, DR, oR, hp5, t5, rfl, S5, hoR⟩
  dsimp only
  have S5 := S5.permP p_sort
  generalize hZ : ((259, tabObj tab) :: [(DX, listOf xs.toArray kX), (DW, listOf us.toArray kW), (L + 1, oN), (D, listOf vs.toArray kD)] : List (Addr × Obj)) = Z at S5
  have z1 : (259, tabObj tab) ∈ Z := hZ ▸ .head _
  have z2 : (DW, listOf us.toArray kW) ∈ Z := hZ ▸ (.tail _ (.tail _ (.head _)))
  have z3 : (L + 1, oN) ∈ Z := hZ ▸ (.tail _ (.tail _ (.tail _ (.head _))))
  have z4 : (D, listOf vs.toArray kD) ∈ Z := hZ ▸ (.tail _ (.tail _ (.tail _ (.tail _ (.head _)))))
  clear hZ
  refine wpAny_execs_cons (cut _ (seg_sort (fixed := fixed) (pl := pl) (kp := 0) B' (Room.mono R' (by decide)) S5 (.tail _ (.head _)) (.head _) hoR (fun p hp => .tail _ (.tail _ (List.mem_append_left _ hp))) hLx ml4 hfs hn) ?_)
  rintro f s6 ⟨rfl, m6, ln, u', k', fs', kR, rs, σ, hp6, t6, rfl, S6, hrs, hA, hm6⟩
  dsimp only
  have mw6 : m6 "words" = some (.ref DW) := by rw [hm6 _ (by decide)]; exact mw4
  have ml6 : m6 "lexer" = some (.ref xl) := by rw [hm6 _ (by decide)]; exact ml4
  -- row = sorted(words)
  refine wpAny_execs_cons (cut _ (seg_same B' (Room.mono R' (by decide)) S6 (DR := DR) (rs := rs) (kR := kR) (DW := DW) (us := us) (kW := kW) (oR := oR) (.tail _ (.tail _ (.tail _ (.head _)))) hoR (.tail _ (.tail _ (.head _))) (.tail _ (.tail _ (.tail _ (.tail _ (.tail _ (List.mem_append_right _ (List.mem_append_left _ z2))))))) mw6 hrs hA hus hn) ?_)
  rintro f s7 ⟨rfl, hp7, t7, rfl, S7⟩
  dsimp only
  have hgood : ∀ x ∈ σ.map (wAt ns), Good x := Arr.good
  have hsorted := hA.sorted
  have h9 : (σ.map (wAt ns)).length = 9 := by rw [List.length_map]; exact hA.len
  have hcnt : ∀ r : Nat, r < 5 → cnt (σ.map (wAt ns)) (r : Nat) = cntN ns (r : Nat) := fun r _ => cnt_row hn hA r
  generalize σ.map (wAt ns) = ws at hrs hgood hsorted h9 hcnt
  -- counts
  refine wpAny_execs_cons (cut _ (seg_counts B' (Room.mono R' (by decide)) S7 (DR := DR) (rs := rs) (kR := kR) (oR := oR) (.tail _ (.tail _ (.tail _ (.head _)))) hoR (.tail _ (.tail _ (.head _))) hrs hgood hsorted (by omega)) ?_)
  rintro f s8 ⟨rfl, DC, cs, kC, hp8, t8, rfl, S8, hcs⟩
  dsimp only
  obtain ⟨m8, S8, mc8, ml8⟩ : ∃ m8, St g L m8 _ hp8 ∧ m8 "counts" = some (.ref DC) ∧ m8 "lexer" = some (.ref xl) := ⟨_, S8, if_pos rfl, by rw [if_neg (by decide)]; exact ml6⟩
  refine wpAny_execs_cons (cut _ (seg_check B' (Room.mono R' (by decide)) S8 (oN := oN) (D := D) (vs := vs) (kD := kD) (.tail _ (.tail _ (.tail _ (.tail _ (.tail _ (List.mem_append_right _ (List.mem_append_left _ z3))))))) hoN (.tail _ (.tail _ (.tail _ (.tail _ (.tail _ (List.mem_append_right _ (List.mem_append_left _ z4))))))) mc8 hvs hn hcs hcnt) ?_)
  rintro f s9 ⟨rfl, hp9, t9, rfl, S9⟩
  dsimp only
  refine wpAny_execs_cons (cut _ (seg_max B' (Room.mono R' (by decide)) S9 (DC := DC) (cs := cs) (kC := kC) (.head _) mc8 hcs) ?_)
  rintro f s10 ⟨⟨hp10, t10, rfl, S10⟩, rfl | ⟨rfl, h4⟩⟩
  · dsimp only
    exact hQ _ _ (S10.post eL hg ⟨rfl, tab, (S10.N (259, tabObj tab) (.tail _ (.tail _ (.tail _ (.tail _ (.tail _ (.tail _ (List.mem_append_right _ (List.mem_append_left _ z1))))))))).1⟩)
  dsimp only
  have hok := row_good hsorted h9 h4
  -- due
  refine wpAny_execs_cons (cut _ (seg_due B' (Room.mono R' (by decide)) S10 (DR := DR) (rs := rs) (kR := kR) (oR := oR) (.tail _ (.tail _ (.tail _ (.tail _ (.head _))))) hoR (.tail _ (.tail _ (.tail _ (.head _)))) hrs hgood h9) ?_)
  rintro f s11 ⟨rfl, Dd, oD, hp11, t11, rfl, S11, hB⟩
  dsimp only
  rw [← due_zero] at hB
  obtain ⟨m11, S11, md11, ml11⟩ : ∃ m11, St g L m11 _ hp11 ∧ m11 "due" = some (.ref Dd) ∧ m11 "lexer" = some (.ref xl) := ⟨_, S11, if_pos rfl, by rw [if_neg (by decide)]; exact ml8⟩
  have hI := (hLx hp11 fun p hp => (S11.N p (.tail _ (.tail _ (.tail _ (.tail _ (.tail _ (.tail _ (.tail _ (List.mem_append_left _ hp))))))))).1).inst
  have S12 := S11.permP p_loop
  refine wpAny_execs_cons (cut _ (seg_loop (DR := DR) (rs := rs) (kR := kR) (oR := oR) (ws := ws) (xl := xl) (dl := dl) (xq := xq) B' R' S12 hI (.tail _ (.head _)) h3 (.tail _ (.tail _ (.tail _ (.tail _ (.head _))))) hoR (.tail _ (.tail _ (.tail _ (.head _)))) ml11 md11 hB hrs hgood h9 hok) ?_)
  rintro f s13 ⟨rfl, m13, hx, Y, hp13, t13, rfl, S13, mt13, hT⟩
  dsimp only
  refine wpAny_execs_cons (cut _ (seg_choice B' (Room.mono R' (by decide)) S13 mt13 (hT.mono fun p hp => List.mem_append_left _ hp) hok) ?_)
  rintro f s14 ⟨rfl, p, up, hp14, t14, rfl, S14, hp, hp5, hpn, hpr⟩
  dsimp only
  refine wpAny_execs_cons (cut _ (seg_end (DR := DR) (rs := rs) (kR := kR) (oR := oR) (ws := ws) B' (Room.mono R' (by decide)) S14 (List.mem_append_right _ (.tail _ (.tail _ (.tail _ (.tail _ (.head _)))))) hoR (List.mem_append_right _ (.tail _ (.tail _ (.tail _ (.head _))))) (if_pos rfl) hrs hgood h9 hp hp5 hpn hpr) ?_)
  rintro f s15 ⟨rfl, hp15, t15, rfl, S15⟩
  dsimp only
  exact hQ _ _ (S15.post eL hg ⟨rfl, tab, (S15.N (259, tabObj tab) (List.mem_append_right _ (.tail _ (.tail _ (.tail _ (.tail _ (.tail _ (List.mem_append_right _ z1)))))))).1⟩)
end
section
theorem looseX_in {mg mb : Str → Option Value} {h : Heap} (T : TopRead topProg (looseW q loose ++ (recsOf q).map (·.name) ++ (litsOf q).map (·.1) ++ (clssOf q (looseW q loose)).map (·.name)) mg mb h) : TopRead topProg looseT mg mb h := by
  refine ⟨T.g, T.b, T.nolimit, T.builtins, fun x h1 h2 h3 h4 h5 => T.free x h1 (fun q' => h2 ?_) h3 h4 ?_⟩
  · have : (looseW q loose ++ (recsOf q).map (·.name) ++ (litsOf q).map (·.1) ++ (clssOf q (looseW q loose)).map (·.name)).all (fun x => looseT.contains x) = true := by decide +kernel
    simpa using List.all_eq_true.mp this x q'
  · exact h5
set_option maxHeartbeats 0 in
theorem wellSaid : PySem.Challenge.rw_pg0296_01.wellSaid = true := by kernel_rfl
theorem room_caller : Room callerA 13 := ⟨by decide, by decide, rfl⟩
theorem owns259 {h : Heap} (e : h.get? 259 = some (tabObj #[])) : Owns (ghostOf h [(263, 259)]) h [(259, tabObj #[])] :=
  ⟨fun p hp => by rcases List.mem_singleton.mp hp with rfl; exact ⟨e, hideAll_none _ (.head _)⟩, by simp⟩
end
end Mine
set_option maxHeartbeats 4000000 in
theorem PySem.Challenge.cw_pg0296_01_holds : PySem.Challenge.rw_pg0296_01.Holds := by
  refine holds_law Mine.wellSaid fun said => ?_
  refine holds_open (q := Mine.q) (loose := Mine.loose) (Xt := fun s => xlAt Mine.q [] s && recOk [] s) (XP := XL Mine.q []) (Yf := Mine.obs) (Ya := Mine.val) (YP := Mine.Says) (N := 3400) Mine.headLeft Mine.says_of Mine.says_keeps (fun s e => xl_of s (Bool.and_eq_true_iff.mp e).1) XL.keeps (by rfl) (by rfl) (by rfl) (fun s e => recFacts_of (Bool.and_eq_true_iff.mp e).2) (by rfl) (by assumption) (by decide +kernel) ⟨rfl, rfl, rfl, rfl, rfl, by decide +kernel⟩ ?hw ?hc
  case hw => w_witness2
  case hc =>
    intro w s₀ s₁ mg mb G Y fa o pm cd doc dV kV ho hd hcd hD hmg hg args vals as hpre hlay hrd hwl hlo
    refine Ground.open G ?_
    intro T B D TE TW
    have X := Y.1
    have hT : TabsAt [(263, 259)] s₁.heap := fun q hq => by
      rcases List.mem_singleton.mp hq with rfl
      exact ⟨codeHd_of_K X (by kernel_rfl), Y.2⟩
    have e1 : mg "law" = some (.ref 281) := mg_of X T.g (by kernel_rfl)
    have e2 : fa = 281 := by
      have : mg "law" = some (.ref fa) := hmg
      rw [e1] at this; cases this; rfl
    subst e2
    wrow_args hpre hlay hrd hwl hlo
    rename_i xs _ _ _ _ _ _ l vs _ hL _ _ _ hI _ hlen _
    refine enter_call ?_
    refine kn_post hT (fun _ _ => rfl) ?_
    have T' := ghost_top hT T
    have C' : CodeHd (ghostOf s₁.heap [(263, 259)]) 263 259 := (ghost_code hT).1
    have B' : Mine.Base w mg mb (ghostOf s₁.heap [(263, 259)]) := ⟨ghost_K hT X (by kernel_rfl), Mine.looseX_in (topRead_of T')⟩
    refine codeAny_mono (Mine.law_spec B' T' C' (fun b o e => of_hideAll _ e) Mine.room_caller (Mine.owns259 Y.2) hL hI (by omega)) ?_
    rintro r s' ⟨v, h', t, rfl, rfl, hsz, hk, rfl, ps, hps⟩
    refine ⟨⟨.inl ⟨.bool true, .bool true, [], rfl, fun _ => rfl, .bool _, postW_of (by wrow_shape) (by wtm_val) (by str_meet; first | done | w_fin), fun _ => ⟨.nil, fun _ h => nomatch h⟩⟩, fun b o e => hk b o (fun q => ?_) (of_hideAll _ e), rfl, hg⟩, ⟨ps, hps⟩, trivial⟩
    have q' : b = 259 := by simpa using q
    subst q'
    rw [show (ghostOf s₁.heap [(263, 259)]).get? 259 = none from hideAll_none _ (.head _)] at e
    cases e
