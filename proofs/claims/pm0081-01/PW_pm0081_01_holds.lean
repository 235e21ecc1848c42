import PyProof.Rows.All
import Wide.All
import OpenK.AllK
import Wide.FinOn
import Lean
import PySem.Challenge.RW_pm0081_01
open PySem PySem.W PyProof.Rows
set_option Elab.async false
set_option linter.unusedVariables false
set_option linter.unusedSimpArgs false
set_option maxRecDepth 100000
set_option maxHeartbeats 8000000
noncomputable section
set_option genSizeOf false
set_option compiler.extract_closed false
set_option bootstrap.genMatcherCode false
namespace Mine
/-! the head: the top's run, looked at by the kernel, once for either side of the row that the world asks -/

noncomputable def parsOf : Stmt → Arguments
  | .FunctionDef _ a _ _ _ _ _ _ _ _ => a
  | _ => default
noncomputable def bodyOf : Stmt → List Stmt
  | .FunctionDef _ _ b _ _ _ _ _ _ _ => b
  | _ => []
noncomputable def scopeOf : Stmt → Scope
  | .FunctionDef _ _ _ _ _ _ s _ _ _ => s
  | _ => default
noncomputable def clsBody : Stmt → List Stmt
  | .ClassDef _ _ _ b _ _ _ _ _ _ _ => b
  | _ => []
noncomputable def nthS : List Stmt → Nat → Stmt
  | [], _ => .Pass ⟨0, 0, 0, 0⟩
  | s :: _, 0 => s
  | _ :: r, n + 1 => nthS r n
noncomputable abbrev pw : Program := PySem.Challenge.pw_pm0081_01
noncomputable def fd_sub : FuncData := { name := (Str.ofString "_substitution_cost"), qualname := (Str.ofString "_substitution_cost"), params := parsOf (nthS pw.main.body 8), body := .stmts (bodyOf (nthS pw.main.body 8)), scope := scopeOf (nthS pw.main.body 8), globals := 3, closure := [], defaults := .none, kwdefaults := .none, doc := .none, pyModule := .str (Str.ofString "cpy313.traceback") 391, annotations := none, code := .ref 110, closureTuple := .none, builtins := 0 }
noncomputable def fd_lev : FuncData := { name := (Str.ofString "_levenshtein_distance"), qualname := (Str.ofString "_levenshtein_distance"), params := parsOf (nthS pw.main.body 9), body := .stmts (bodyOf (nthS pw.main.body 9)), scope := scopeOf (nthS pw.main.body 9), globals := 3, closure := [], defaults := .none, kwdefaults := .none, doc := .none, pyModule := .str (Str.ofString "cpy313.traceback") 391, annotations := none, code := .ref 117, closureTuple := .none, builtins := 0 }
noncomputable def fd_wsi : FuncData := { name := (Str.ofString "__init__"), qualname := (Str.ofString "Whitespace.__init__"), params := parsOf (nthS (clsBody (nthS pw.main.body 3)) 1), body := .stmts (bodyOf (nthS (clsBody (nthS pw.main.body 3)) 1)), scope := scopeOf (nthS (clsBody (nthS pw.main.body 3)) 1), globals := 3, closure := [], defaults := .none, kwdefaults := .none, doc := .none, pyModule := .str (Str.ofString "cpy313.tabnanny") 289, annotations := none, code := .ref 54, closureTuple := .none, builtins := 0 }
noncomputable def fd_run : FuncData := { name := (Str.ofString "longest_run_of_spaces"), qualname := (Str.ofString "Whitespace.longest_run_of_spaces"), params := parsOf (nthS (clsBody (nthS pw.main.body 3)) 2), body := .stmts (bodyOf (nthS (clsBody (nthS pw.main.body 3)) 2)), scope := scopeOf (nthS (clsBody (nthS pw.main.body 3)) 2), globals := 3, closure := [], defaults := .none, kwdefaults := .none, doc := .none, pyModule := .str (Str.ofString "cpy313.tabnanny") 289, annotations := none, code := .ref 61, closureTuple := .none, builtins := 0 }
noncomputable def fd_ind : FuncData := { name := (Str.ofString "indent_level"), qualname := (Str.ofString "Whitespace.indent_level"), params := parsOf (nthS (clsBody (nthS pw.main.body 3)) 3), body := .stmts (bodyOf (nthS (clsBody (nthS pw.main.body 3)) 3)), scope := scopeOf (nthS (clsBody (nthS pw.main.body 3)) 3), globals := 3, closure := [], defaults := .none, kwdefaults := .none, doc := .none, pyModule := .str (Str.ofString "cpy313.tabnanny") 289, annotations := none, code := .ref 68, closureTuple := .none, builtins := 0 }
noncomputable def fd_less : FuncData := { name := (Str.ofString "less"), qualname := (Str.ofString "Whitespace.less"), params := parsOf (nthS (clsBody (nthS pw.main.body 3)) 6), body := .stmts (bodyOf (nthS (clsBody (nthS pw.main.body 3)) 6)), scope := scopeOf (nthS (clsBody (nthS pw.main.body 3)) 6), globals := 3, closure := [], defaults := .none, kwdefaults := .none, doc := .none, pyModule := .str (Str.ofString "cpy313.tabnanny") 289, annotations := none, code := .ref 89, closureTuple := .none, builtins := 0 }
noncomputable def fd_fmt : FuncData := { name := (Str.ofString "_formatparam"), qualname := (Str.ofString "_formatparam"), params := parsOf (nthS pw.main.body 14), body := .stmts (bodyOf (nthS pw.main.body 14)), scope := scopeOf (nthS pw.main.body 14), globals := 3, closure := [], defaults := .ref 134, kwdefaults := .none, doc := .none, pyModule := .str (Str.ofString "cpy313.wsgiref.headers") 427, annotations := none, code := .ref 140, closureTuple := .none, builtins := 0 }
noncomputable def fd_hdi : FuncData := { name := (Str.ofString "__init__"), qualname := (Str.ofString "Headers.__init__"), params := parsOf (nthS (clsBody (nthS pw.main.body 15)) 0), body := .stmts (bodyOf (nthS (clsBody (nthS pw.main.body 15)) 0)), scope := scopeOf (nthS (clsBody (nthS pw.main.body 15)) 0), globals := 3, closure := [], defaults := .ref 149, kwdefaults := .none, doc := .none, pyModule := .str (Str.ofString "cpy313.wsgiref.headers") 427, annotations := none, code := .ref 155, closureTuple := .none, builtins := 0 }
noncomputable def fd_conv : FuncData := { name := (Str.ofString "_convert_string_type"), qualname := (Str.ofString "Headers._convert_string_type"), params := parsOf (nthS (clsBody (nthS pw.main.body 15)) 1), body := .stmts (bodyOf (nthS (clsBody (nthS pw.main.body 15)) 1)), scope := scopeOf (nthS (clsBody (nthS pw.main.body 15)) 1), globals := 3, closure := [], defaults := .none, kwdefaults := .none, doc := .none, pyModule := .str (Str.ofString "cpy313.wsgiref.headers") 427, annotations := none, code := .ref 162, closureTuple := .none, builtins := 0 }
noncomputable def fd_get : FuncData := { name := (Str.ofString "get_all"), qualname := (Str.ofString "Headers.get_all"), params := parsOf (nthS (clsBody (nthS pw.main.body 15)) 7), body := .stmts (bodyOf (nthS (clsBody (nthS pw.main.body 15)) 7)), scope := scopeOf (nthS (clsBody (nthS pw.main.body 15)) 7), globals := 3, closure := [], defaults := .none, kwdefaults := .none, doc := .none, pyModule := .str (Str.ofString "cpy313.wsgiref.headers") 427, annotations := none, code := .ref 200, closureTuple := .none, builtins := 0 }
noncomputable def fd_add : FuncData := { name := (Str.ofString "add_header"), qualname := (Str.ofString "Headers.add_header"), params := parsOf (nthS (clsBody (nthS pw.main.body 15)) 16), body := .stmts (bodyOf (nthS (clsBody (nthS pw.main.body 15)) 16)), scope := scopeOf (nthS (clsBody (nthS pw.main.body 15)) 16), globals := 3, closure := [], defaults := .none, kwdefaults := .none, doc := .none, pyModule := .str (Str.ofString "cpy313.wsgiref.headers") 427, annotations := none, code := .ref 258, closureTuple := .none, builtins := 0 }
noncomputable def fd_lead : FuncData := { name := (Str.ofString "_law_lead"), qualname := (Str.ofString "_law_lead"), params := parsOf (nthS pw.main.body 17), body := .stmts (bodyOf (nthS pw.main.body 17)), scope := scopeOf (nthS pw.main.body 17), globals := 3, closure := [], defaults := .none, kwdefaults := .none, doc := .none, pyModule := .str (Str.ofString "law_pm0081_01") 690, annotations := none, code := .ref 270, closureTuple := .none, builtins := 0 }
noncomputable def fd_bars : FuncData := { name := (Str.ofString "_law_bars"), qualname := (Str.ofString "_law_bars"), params := parsOf (nthS pw.main.body 18), body := .stmts (bodyOf (nthS pw.main.body 18)), scope := scopeOf (nthS pw.main.body 18), globals := 3, closure := [], defaults := .none, kwdefaults := .none, doc := .none, pyModule := .str (Str.ofString "law_pm0081_01") 690, annotations := none, code := .ref 275, closureTuple := .none, builtins := 0 }
noncomputable def fd_cols : FuncData := { name := (Str.ofString "_law_columns"), qualname := (Str.ofString "_law_columns"), params := parsOf (nthS pw.main.body 19), body := .stmts (bodyOf (nthS pw.main.body 19)), scope := scopeOf (nthS pw.main.body 19), globals := 3, closure := [], defaults := .none, kwdefaults := .none, doc := .none, pyModule := .str (Str.ofString "law_pm0081_01") 690, annotations := none, code := .ref 282, closureTuple := .none, builtins := 0 }
noncomputable def fd_lays : FuncData := { name := (Str.ofString "_law_layers"), qualname := (Str.ofString "_law_layers"), params := parsOf (nthS pw.main.body 20), body := .stmts (bodyOf (nthS pw.main.body 20)), scope := scopeOf (nthS pw.main.body 20), globals := 3, closure := [], defaults := .none, kwdefaults := .none, doc := .none, pyModule := .str (Str.ofString "law_pm0081_01") 690, annotations := none, code := .ref 289, closureTuple := .none, builtins := 0 }
noncomputable def fd_names : FuncData := { name := (Str.ofString "_law_names"), qualname := (Str.ofString "_law_names"), params := parsOf (nthS pw.main.body 21), body := .stmts (bodyOf (nthS pw.main.body 21)), scope := scopeOf (nthS pw.main.body 21), globals := 3, closure := [], defaults := .none, kwdefaults := .none, doc := .none, pyModule := .str (Str.ofString "law_pm0081_01") 690, annotations := none, code := .ref 294, closureTuple := .none, builtins := 0 }
noncomputable def fd_met : FuncData := { name := (Str.ofString "_law_met"), qualname := (Str.ofString "_law_met"), params := parsOf (nthS pw.main.body 22), body := .stmts (bodyOf (nthS pw.main.body 22)), scope := scopeOf (nthS pw.main.body 22), globals := 3, closure := [], defaults := .none, kwdefaults := .none, doc := .none, pyModule := .str (Str.ofString "law_pm0081_01") 690, annotations := none, code := .ref 299, closureTuple := .none, builtins := 0 }
noncomputable def fd_law : FuncData := { name := (Str.ofString "law"), qualname := (Str.ofString "law"), params := parsOf (nthS pw.main.body 23), body := .stmts (bodyOf (nthS pw.main.body 23)), scope := scopeOf (nthS pw.main.body 23), globals := 3, closure := [], defaults := .none, kwdefaults := .none, doc := .none, pyModule := .str (Str.ofString "law_pm0081_01") 690, annotations := none, code := .ref 304, closureTuple := .none, builtins := 0 }
noncomputable def ob_2 (P : Params) : Obj := ⟨.none, none, .dict ([⟨PyData.keyHash P (Str.ofString "im\x70ort.loaded._sre"), .str (Str.ofString "im\x70ort.loaded._sre") 183, .bool true⟩, ⟨PyData.keyHash P (Str.ofString "class._frozen_importlib.BuiltinImporter"), .str (Str.ofString "class._frozen_importlib.BuiltinImporter") 185, .ref 14⟩, ⟨PyData.keyHash P (Str.ofString "watched.im\x70ort"), .str (Str.ofString "watched.im\x70ort") 206, .ref 18⟩, ⟨PyData.keyHash P (Str.ofString "class._frozen_importlib.ModuleSpec"), .str (Str.ofString "class._frozen_importlib.ModuleSpec") 216, .ref 22⟩, ⟨PyData.keyHash P (Str.ofString "sys.modules.booked-epoch"), .str (Str.ofString "sys.modules.booked-epoch") 245, .int 3 0⟩, ⟨PyData.keyHash P (Str.ofString "im\x70ort.later-laid._sre"), .str (Str.ofString "im\x70ort.later-laid._sre") 270, .bool true⟩, ⟨PyData.keyHash P (Str.ofString "watched.library"), .str (Str.ofString "watched.library") 272, .ref 27⟩, ⟨PyData.keyHash P (Str.ofString "watched.library-objects"), .str (Str.ofString "watched.library-objects") 0, .str (Str.ofString "\x0c") 0⟩, ⟨PyData.keyHash P (Str.ofString "watched.library-deep._sre"), .str (Str.ofString "watched.library-deep._sre") 273, .str (Str.ofString "\x04\x00\x00\x0b\x04\x00\x00\x0b\x04\x00\x00\x03\x04\x00\x00\x0b\x08\x04dict\x02") 0⟩] : List DictEntry).toArray 9, ([] : List (Option Value)).toArray⟩
noncomputable def ob_3 (P : Params) : Obj := ⟨.type "dict", none, .dict ([⟨PyData.keyHash P (Str.ofString "__name__"), .str (Str.ofString "__name__") 165, .str (Str.ofString "law_pm0081_01") 690⟩, ⟨PyData.keyHash P (Str.ofString "__doc__"), .str (Str.ofString "__doc__") 166, .none⟩, ⟨PyData.keyHash P (Str.ofString "__package__"), .str (Str.ofString "__package__") 167, .none⟩, ⟨PyData.keyHash P (Str.ofString "__loader__"), .str (Str.ofString "__loader__") 168, .builtin "__main__.__loader__#opaque"⟩, ⟨PyData.keyHash P (Str.ofString "__spec__"), .str (Str.ofString "__spec__") 169, .none⟩, ⟨PyData.keyHash P (Str.ofString "__annotations__"), .str (Str.ofString "__annotations__") 170, .ref 6⟩, ⟨PyData.keyHash P (Str.ofString "__builtins__"), .str (Str.ofString "__builtins__") 171, .ref 4⟩, ⟨PyData.keyHash P (Str.ofString "__file__"), .str (Str.ofString "__file__") 173, .str (Str.ofString "/claim/cut.py") 172⟩, ⟨PyData.keyHash P (Str.ofString "__cached__"), .str (Str.ofString "__cached__") 174, .none⟩, ⟨PyData.keyHash P (Str.ofString "_sre"), .str (Str.ofString "_sre") 275, .ref 12⟩, ⟨PyData.keyHash P (Str.ofString "_wall"), .str (Str.ofString "_wall") 288, .ref 38⟩, ⟨PyData.keyHash P (Str.ofString "Whitespace"), .str (Str.ofString "Whitespace") 390, .ref 100⟩, ⟨PyData.keyHash P (Str.ofString "_MAX_STRING_SIZE"), .str (Str.ofString "_MAX_STRING_SIZE") 394, .int 40 393⟩, ⟨PyData.keyHash P (Str.ofString "_MOVE_COST"), .str (Str.ofString "_MOVE_COST") 396, .int 2 395⟩, ⟨PyData.keyHash P (Str.ofString "_CASE_COST"), .str (Str.ofString "_CASE_COST") 398, .int 1 397⟩, ⟨PyData.keyHash P (Str.ofString "_substitution_cost"), .str (Str.ofString "_substitution_cost") 406, .ref 111⟩, ⟨PyData.keyHash P (Str.ofString "_levenshtein_distance"), .str (Str.ofString "_levenshtein_distance") 426, .ref 118⟩, ⟨PyData.keyHash P (Str.ofString "tspecials"), .str (Str.ofString "tspecials") 462, .ref 123⟩, ⟨PyData.keyHash P (Str.ofString "_name_disallowed_re"), .str (Str.ofString "_name_disallowed_re") 488, .ref 128⟩, ⟨PyData.keyHash P (Str.ofString "_value_disallowed_re"), .str (Str.ofString "_value_disallowed_re") 522, .ref 133⟩, ⟨PyData.keyHash P (Str.ofString "_formatparam"), .str (Str.ofString "_formatparam") 532, .ref 141⟩, ⟨PyData.keyHash P (Str.ofString "Headers"), .str (Str.ofString "Headers") 689, .ref 262⟩, ⟨PyData.keyHash P (Str.ofString "_law_lead"), .str (Str.ofString "_law_lead") 697, .ref 271⟩, ⟨PyData.keyHash P (Str.ofString "_law_bars"), .str (Str.ofString "_law_bars") 703, .ref 276⟩, ⟨PyData.keyHash P (Str.ofString "_law_columns"), .str (Str.ofString "_law_columns") 714, .ref 283⟩, ⟨PyData.keyHash P (Str.ofString "_law_layers"), .str (Str.ofString "_law_layers") 725, .ref 290⟩, ⟨PyData.keyHash P (Str.ofString "_law_names"), .str (Str.ofString "_law_names") 731, .ref 295⟩, ⟨PyData.keyHash P (Str.ofString "_law_met"), .str (Str.ofString "_law_met") 737, .ref 300⟩, ⟨PyData.keyHash P (Str.ofString "law"), .str (Str.ofString "law") 743, .ref 305⟩] : List DictEntry).toArray 29, ([] : List (Option Value)).toArray⟩
noncomputable def ob_54 (P : Params) : Obj := ⟨.type "code", none, .fields ([.str (Str.ofString "__init__") 308, .str (Str.ofString "Whitespace.__init__") 309, .str (Str.ofString "/claim/cut.py") 310, .int 9 0, .int 2 0, .int 0 0, .int 0 0, .int 3 0, .ref 49, .bool true, .int 276 0, .ref 50, .none, .ref 51, .ref 52, .ref 53, .int 320 0, .int 9 0, .str (Str.ofString "/claim/cut.py") 321] : List Value).toArray, ([] : List (Option Value)).toArray⟩
noncomputable def ob_61 (P : Params) : Obj := ⟨.type "code", none, .fields ([.str (Str.ofString "longest_run_of_spaces") 323, .str (Str.ofString "Whitespace.longest_run_of_spaces") 324, .str (Str.ofString "/claim/cut.py") 325, .int 32 0, .int 1 0, .int 0 0, .int 0 0, .int 3 0, .ref 56, .bool true, .int 276 0, .ref 57, .none, .ref 58, .ref 59, .ref 60, .int 329 0, .int 32 0, .str (Str.ofString "/claim/cut.py") 330] : List Value).toArray, ([] : List (Option Value)).toArray⟩
noncomputable def ob_68 (P : Params) : Obj := ⟨.type "code", none, .fields ([.str (Str.ofString "indent_level") 332, .str (Str.ofString "Whitespace.indent_level") 333, .str (Str.ofString "/claim/cut.py") 334, .int 36 0, .int 2 0, .int 0 0, .int 0 0, .int 3 0, .ref 63, .bool true, .int 276 0, .ref 64, .none, .ref 65, .ref 66, .ref 67, .int 341 0, .int 36 0, .str (Str.ofString "/claim/cut.py") 342] : List Value).toArray, ([] : List (Option Value)).toArray⟩
noncomputable def ob_89 (P : Params) : Obj := ⟨.type "code", none, .fields ([.str (Str.ofString "less") 360, .str (Str.ofString "Whitespace.less") 361, .str (Str.ofString "/claim/cut.py") 362, .int 49 0, .int 2 0, .int 0 0, .int 0 0, .int 3 0, .ref 84, .bool true, .int 276 0, .ref 85, .none, .ref 86, .ref 87, .ref 88, .int 367 0, .int 49 0, .str (Str.ofString "/claim/cut.py") 368] : List Value).toArray, ([] : List (Option Value)).toArray⟩
noncomputable def ob_99 (P : Params) : Obj := ⟨.type "dict", none, .dict ([⟨PyData.keyHash P (Str.ofString "__module__"), .str (Str.ofString "__module__") 298, .str (Str.ofString "cpy313.tabnanny") 289⟩, ⟨PyData.keyHash P (Str.ofString "__firstlineno__"), .str (Str.ofString "__firstlineno__") 302, .int 6 301⟩, ⟨PyData.keyHash P (Str.ofString "S"), .str (Str.ofString "S") 306, .str (Str.ofString " ") 304⟩, ⟨PyData.keyHash P (Str.ofString "T"), .str (Str.ofString "T") 307, .str (Str.ofString "\t") 305⟩, ⟨PyData.keyHash P (Str.ofString "__init__"), .str (Str.ofString "__init__") 322, .ref 55⟩, ⟨PyData.keyHash P (Str.ofString "longest_run_of_spaces"), .str (Str.ofString "longest_run_of_spaces") 331, .ref 62⟩, ⟨PyData.keyHash P (Str.ofString "indent_level"), .str (Str.ofString "indent_level") 343, .ref 69⟩, ⟨PyData.keyHash P (Str.ofString "equal"), .str (Str.ofString "equal") 351, .ref 76⟩, ⟨PyData.keyHash P (Str.ofString "not_equal_witness"), .str (Str.ofString "not_equal_witness") 359, .ref 83⟩, ⟨PyData.keyHash P (Str.ofString "less"), .str (Str.ofString "less") 369, .ref 90⟩, ⟨PyData.keyHash P (Str.ofString "not_less_witness"), .str (Str.ofString "not_less_witness") 377, .ref 97⟩, ⟨PyData.keyHash P (Str.ofString "__static_attributes__"), .str (Str.ofString "__static_attributes__") 383, .ref 98⟩, ⟨PyData.keyHash P (Str.ofString "__dict__"), .str (Str.ofString "__dict__") 385, .ref 101⟩, ⟨PyData.keyHash P (Str.ofString "__weakref__"), .str (Str.ofString "__weakref__") 387, .ref 102⟩, ⟨PyData.keyHash P (Str.ofString "__doc__"), .str (Str.ofString "__doc__") 388, .none⟩] : List DictEntry).toArray 4, ([] : List (Option Value)).toArray⟩
noncomputable def ob_100 (P : Params) : Obj := ⟨.type "type", none, (.cls { name := (Str.ofString "Whitespace"), bases := [.type "object"], mro := [.ref 100, .type "object"], ns := 99, qualname := (Str.ofString "Whitespace"), hasDict := true, slotNames := [], subclasses := [], abstract := false, collection := none, hasDel := false }), ([none, none, some (.str (Str.ofString "Whitespace") 291), some (.str (Str.ofString "Whitespace") 299), some (.builtin "object.__new__"), some (.bool true)] : List (Option Value)).toArray⟩
noncomputable def ob_110 (P : Params) : Obj := ⟨.type "code", none, .fields ([.str (Str.ofString "_substitution_cost") 399, .str (Str.ofString "_substitution_cost") 400, .str (Str.ofString "/claim/cut.py") 401, .int 66 0, .int 2 0, .int 0 0, .int 0 0, .int 3 0, .ref 105, .bool true, .int 276 0, .ref 106, .none, .ref 107, .ref 108, .ref 109, .int 404 0, .int 66 0, .str (Str.ofString "/claim/cut.py") 405] : List Value).toArray, ([] : List (Option Value)).toArray⟩
noncomputable def ob_117 (P : Params) : Obj := ⟨.type "code", none, .fields ([.str (Str.ofString "_levenshtein_distance") 407, .str (Str.ofString "_levenshtein_distance") 408, .str (Str.ofString "/claim/cut.py") 409, .int 72 0, .int 3 0, .int 0 0, .int 0 0, .int 3 0, .ref 112, .bool true, .int 276 0, .ref 113, .none, .ref 114, .ref 115, .ref 116, .int 424 0, .int 72 0, .str (Str.ofString "/claim/cut.py") 425] : List Value).toArray, ([] : List (Option Value)).toArray⟩
noncomputable def ob_127 (P : Params) : Obj := ⟨.type "tuple", none, .seq ([.int 14 0, .int 10 0, .int 4 0, .int 1 0, .int 1 0, .int 22 0, .int 0 0, .int 31 0, .int 16 0, .int 127 0, .int 0 0, .int 13 0, .int 7 0, .int 22 0, .int 0 0, .int 31 0, .int 16 0, .int 127 0, .int 0 0, .int 1 0] : List Value).toArray 0, ([] : List (Option Value)).toArray⟩
noncomputable def ob_128 (P : Params) : Obj := ⟨.type "re.Pattern", none, .fields ([.str (Str.ofString "[\\x00-\\x1F\\x7F]") 464, .int 32 487, .int 0 0, .none, .none, .ref 127, .int 0 0] : List Value).toArray, ([] : List (Option Value)).toArray⟩
noncomputable def ob_132 (P : Params) : Obj := ⟨.type "tuple", none, .seq ([.int 14 0, .int 14 0, .int 4 0, .int 1 0, .int 1 0, .int 9 0, .int 4294966783 0, .int 0 0, .int 0 0, .int 2147483648 0, .int 0 0, .int 0 0, .int 0 0, .int 0 0, .int 0 0, .int 13 0, .int 11 0, .int 9 0, .int 4294966783 0, .int 0 0, .int 0 0, .int 2147483648 0, .int 0 0, .int 0 0, .int 0 0, .int 0 0, .int 0 0, .int 1 0] : List Value).toArray 0, ([] : List (Option Value)).toArray⟩
noncomputable def ob_133 (P : Params) : Obj := ⟨.type "re.Pattern", none, .fields ([.str (Str.ofString "[\\x00-\\x08\\x0A-\\x1F\\x7F]") 490, .int 32 521, .int 0 0, .none, .none, .ref 132, .int 0 0] : List Value).toArray, ([] : List (Option Value)).toArray⟩
noncomputable def ob_134 (P : Params) : Obj := ⟨.type "tuple", none, .seq ([.none, .int 1 523] : List Value).toArray 0, ([] : List (Option Value)).toArray⟩
noncomputable def ob_140 (P : Params) : Obj := ⟨.type "code", none, .fields ([.str (Str.ofString "_formatparam") 524, .str (Str.ofString "_formatparam") 525, .str (Str.ofString "/claim/cut.py") 526, .int 114 0, .int 3 0, .int 0 0, .int 0 0, .int 3 0, .ref 135, .bool true, .int 276 0, .ref 136, .none, .ref 137, .ref 138, .ref 139, .int 530 0, .int 114 0, .str (Str.ofString "/claim/cut.py") 531] : List Value).toArray, ([] : List (Option Value)).toArray⟩
noncomputable def ob_149 (P : Params) : Obj := ⟨.type "tuple", none, .seq ([.none] : List Value).toArray 0, ([] : List (Option Value)).toArray⟩
noncomputable def ob_155 (P : Params) : Obj := ⟨.type "code", none, .fields ([.str (Str.ofString "__init__") 545, .str (Str.ofString "Headers.__init__") 546, .str (Str.ofString "/claim/cut.py") 547, .int 125 0, .int 2 0, .int 0 0, .int 0 0, .int 3 0, .ref 150, .bool true, .int 276 0, .ref 151, .none, .ref 152, .ref 153, .ref 154, .int 552 0, .int 125 0, .str (Str.ofString "/claim/cut.py") 553] : List Value).toArray, ([] : List (Option Value)).toArray⟩
noncomputable def ob_162 (P : Params) : Obj := ⟨.type "code", none, .fields ([.str (Str.ofString "_convert_string_type") 555, .str (Str.ofString "Headers._convert_string_type") 556, .str (Str.ofString "/claim/cut.py") 557, .int 135 0, .int 2 0, .int 0 0, .int 1 0, .int 3 0, .ref 157, .bool true, .int 276 0, .ref 158, .none, .ref 159, .ref 160, .ref 161, .int 562 0, .int 135 0, .str (Str.ofString "/claim/cut.py") 563] : List Value).toArray, ([] : List (Option Value)).toArray⟩
noncomputable def ob_200 (P : Params) : Obj := ⟨.type "code", none, .fields ([.str (Str.ofString "get_all") 603, .str (Str.ofString "Headers.get_all") 604, .str (Str.ofString "/claim/cut.py") 605, .int 160 0, .int 2 0, .int 0 0, .int 0 0, .int 3 0, .ref 197, .bool true, .int 276 0, .ref 198, .none, .none, .none, .ref 199, .int 606 0, .int 160 0, .str (Str.ofString "/claim/cut.py") 607] : List Value).toArray, ([] : List (Option Value)).toArray⟩
noncomputable def ob_258 (P : Params) : Obj := ⟨.type "code", none, .fields ([.str (Str.ofString "add_header") 668, .str (Str.ofString "Headers.add_header") 669, .str (Str.ofString "/claim/cut.py") 670, .int 192 0, .int 3 0, .int 0 0, .int 0 0, .int 11 0, .ref 253, .bool true, .int 276 0, .ref 254, .none, .ref 255, .ref 256, .ref 257, .int 678 0, .int 192 0, .str (Str.ofString "/claim/cut.py") 679] : List Value).toArray, ([] : List (Option Value)).toArray⟩
noncomputable def ob_261 (P : Params) : Obj := ⟨.type "dict", none, .dict ([⟨PyData.keyHash P (Str.ofString "__module__"), .str (Str.ofString "__module__") 540, .str (Str.ofString "cpy313.wsgiref.headers") 427⟩, ⟨PyData.keyHash P (Str.ofString "__firstlineno__"), .str (Str.ofString "__firstlineno__") 544, .int 123 543⟩, ⟨PyData.keyHash P (Str.ofString "__init__"), .str (Str.ofString "__init__") 554, .ref 156⟩, ⟨PyData.keyHash P (Str.ofString "_convert_string_type"), .str (Str.ofString "_convert_string_type") 564, .ref 163⟩, ⟨PyData.keyHash P (Str.ofString "__len__"), .str (Str.ofString "__len__") 571, .ref 170⟩, ⟨PyData.keyHash P (Str.ofString "__setitem__"), .str (Str.ofString "__setitem__") 580, .ref 177⟩, ⟨PyData.keyHash P (Str.ofString "__delitem__"), .str (Str.ofString "__delitem__") 586, .ref 182⟩, ⟨PyData.keyHash P (Str.ofString "__getitem__"), .str (Str.ofString "__getitem__") 594, .ref 189⟩, ⟨PyData.keyHash P (Str.ofString "__contains__"), .str (Str.ofString "__contains__") 602, .ref 196⟩, ⟨PyData.keyHash P (Str.ofString "get_all"), .str (Str.ofString "get_all") 608, .ref 201⟩, ⟨PyData.keyHash P (Str.ofString "get"), .str (Str.ofString "get") 619, .ref 209⟩, ⟨PyData.keyHash P (Str.ofString "keys"), .str (Str.ofString "keys") 625, .ref 214⟩, ⟨PyData.keyHash P (Str.ofString "values"), .str (Str.ofString "values") 631, .ref 219⟩, ⟨PyData.keyHash P (Str.ofString "items"), .str (Str.ofString "items") 638, .ref 226⟩, ⟨PyData.keyHash P (Str.ofString "__repr__"), .str (Str.ofString "__repr__") 645, .ref 233⟩, ⟨PyData.keyHash P (Str.ofString "__str__"), .str (Str.ofString "__str__") 651, .ref 238⟩, ⟨PyData.keyHash P (Str.ofString "__bytes__"), .str (Str.ofString "__bytes__") 658, .ref 245⟩, ⟨PyData.keyHash P (Str.ofString "setdefault"), .str (Str.ofString "setdefault") 667, .ref 252⟩, ⟨PyData.keyHash P (Str.ofString "add_header"), .str (Str.ofString "add_header") 680, .ref 259⟩, ⟨PyData.keyHash P (Str.ofString "__static_attributes__"), .str (Str.ofString "__static_attributes__") 682, .ref 260⟩, ⟨PyData.keyHash P (Str.ofString "__dict__"), .str (Str.ofString "__dict__") 684, .ref 263⟩, ⟨PyData.keyHash P (Str.ofString "__weakref__"), .str (Str.ofString "__weakref__") 686, .ref 264⟩, ⟨PyData.keyHash P (Str.ofString "__doc__"), .str (Str.ofString "__doc__") 687, .none⟩] : List DictEntry).toArray 4, ([] : List (Option Value)).toArray⟩
noncomputable def ob_262 (P : Params) : Obj := ⟨.type "type", none, (.cls { name := (Str.ofString "Headers"), bases := [.type "object"], mro := [.ref 262, .type "object"], ns := 261, qualname := (Str.ofString "Headers"), hasDict := true, slotNames := [], subclasses := [], abstract := false, collection := none, hasDel := false }), ([none, none, some (.str (Str.ofString "Headers") 533), some (.str (Str.ofString "Headers") 541), some (.builtin "object.__new__"), some (.bool true)] : List (Option Value)).toArray⟩
noncomputable def ob_270 (P : Params) : Obj := ⟨.type "code", none, .fields ([.str (Str.ofString "_law_lead") 692, .str (Str.ofString "_law_lead") 693, .str (Str.ofString "/claim/cut.py") 694, .int 206 0, .int 2 0, .int 0 0, .int 0 0, .int 3 0, .ref 267, .bool true, .int 276 0, .ref 268, .none, .none, .none, .ref 269, .int 695 0, .int 206 0, .str (Str.ofString "/claim/cut.py") 696] : List Value).toArray, ([] : List (Option Value)).toArray⟩
noncomputable def ob_275 (P : Params) : Obj := ⟨.type "code", none, .fields ([.str (Str.ofString "_law_bars") 698, .str (Str.ofString "_law_bars") 699, .str (Str.ofString "/claim/cut.py") 700, .int 211 0, .int 3 0, .int 0 0, .int 0 0, .int 3 0, .ref 272, .bool true, .int 276 0, .ref 273, .none, .none, .none, .ref 274, .int 701 0, .int 211 0, .str (Str.ofString "/claim/cut.py") 702] : List Value).toArray, ([] : List (Option Value)).toArray⟩
noncomputable def ob_282 (P : Params) : Obj := ⟨.type "code", none, .fields ([.str (Str.ofString "_law_columns") 704, .str (Str.ofString "_law_columns") 705, .str (Str.ofString "/claim/cut.py") 706, .int 213 0, .int 1 0, .int 0 0, .int 0 0, .int 3 0, .ref 277, .bool true, .int 276 0, .ref 278, .none, .ref 279, .ref 280, .ref 281, .int 712 0, .int 213 0, .str (Str.ofString "/claim/cut.py") 713] : List Value).toArray, ([] : List (Option Value)).toArray⟩
noncomputable def ob_289 (P : Params) : Obj := ⟨.type "code", none, .fields ([.str (Str.ofString "_law_layers") 715, .str (Str.ofString "_law_layers") 716, .str (Str.ofString "/claim/cut.py") 717, .int 222 0, .int 1 0, .int 0 0, .int 0 0, .int 3 0, .ref 284, .bool true, .int 276 0, .ref 285, .none, .ref 286, .ref 287, .ref 288, .int 723 0, .int 222 0, .str (Str.ofString "/claim/cut.py") 724] : List Value).toArray, ([] : List (Option Value)).toArray⟩
noncomputable def ob_294 (P : Params) : Obj := ⟨.type "code", none, .fields ([.str (Str.ofString "_law_names") 726, .str (Str.ofString "_law_names") 727, .str (Str.ofString "/claim/cut.py") 728, .int 231 0, .int 1 0, .int 0 0, .int 0 0, .int 3 0, .ref 291, .bool true, .int 276 0, .ref 292, .none, .none, .none, .ref 293, .int 729 0, .int 231 0, .str (Str.ofString "/claim/cut.py") 730] : List Value).toArray, ([] : List (Option Value)).toArray⟩
noncomputable def ob_299 (P : Params) : Obj := ⟨.type "code", none, .fields ([.str (Str.ofString "_law_met") 732, .str (Str.ofString "_law_met") 733, .str (Str.ofString "/claim/cut.py") 734, .int 233 0, .int 2 0, .int 0 0, .int 0 0, .int 3 0, .ref 296, .bool true, .int 276 0, .ref 297, .none, .none, .none, .ref 298, .int 735 0, .int 233 0, .str (Str.ofString "/claim/cut.py") 736] : List Value).toArray, ([] : List (Option Value)).toArray⟩
noncomputable def ob_304 (P : Params) : Obj := ⟨.type "code", none, .fields ([.str (Str.ofString "law") 738, .str (Str.ofString "law") 739, .str (Str.ofString "/claim/cut.py") 740, .int 236 0, .int 1 0, .int 0 0, .int 0 0, .int 3 0, .ref 301, .bool true, .int 276 0, .ref 302, .none, .none, .none, .ref 303, .int 741 0, .int 236 0, .str (Str.ofString "/claim/cut.py") 742] : List Value).toArray, ([] : List (Option Value)).toArray⟩
noncomputable def KK (P : Params) : Frag := [(2, ob_2 P),
  (3, ob_3 P),
  (54, ob_54 P),
  (55, ⟨.type "function", none, .func fd_wsi, ([] : List (Option Value)).toArray⟩),
  (61, ob_61 P),
  (62, ⟨.type "function", none, .func fd_run, ([] : List (Option Value)).toArray⟩),
  (68, ob_68 P),
  (69, ⟨.type "function", none, .func fd_ind, ([] : List (Option Value)).toArray⟩),
  (89, ob_89 P),
  (90, ⟨.type "function", none, .func fd_less, ([] : List (Option Value)).toArray⟩),
  (99, ob_99 P),
  (100, ob_100 P),
  (110, ob_110 P),
  (111, ⟨.type "function", none, .func fd_sub, ([] : List (Option Value)).toArray⟩),
  (117, ob_117 P),
  (118, ⟨.type "function", none, .func fd_lev, ([] : List (Option Value)).toArray⟩),
  (127, ob_127 P),
  (128, ob_128 P),
  (132, ob_132 P),
  (133, ob_133 P),
  (134, ob_134 P),
  (140, ob_140 P),
  (141, ⟨.type "function", none, .func fd_fmt, ([] : List (Option Value)).toArray⟩),
  (149, ob_149 P),
  (155, ob_155 P),
  (156, ⟨.type "function", none, .func fd_hdi, ([] : List (Option Value)).toArray⟩),
  (162, ob_162 P),
  (163, ⟨.type "function", none, .func fd_conv, ([] : List (Option Value)).toArray⟩),
  (200, ob_200 P),
  (201, ⟨.type "function", none, .func fd_get, ([] : List (Option Value)).toArray⟩),
  (258, ob_258 P),
  (259, ⟨.type "function", none, .func fd_add, ([] : List (Option Value)).toArray⟩),
  (261, ob_261 P),
  (262, ob_262 P),
  (270, ob_270 P),
  (271, ⟨.type "function", none, .func fd_lead, ([] : List (Option Value)).toArray⟩),
  (275, ob_275 P),
  (276, ⟨.type "function", none, .func fd_bars, ([] : List (Option Value)).toArray⟩),
  (282, ob_282 P),
  (283, ⟨.type "function", none, .func fd_cols, ([] : List (Option Value)).toArray⟩),
  (289, ob_289 P),
  (290, ⟨.type "function", none, .func fd_lays, ([] : List (Option Value)).toArray⟩),
  (294, ob_294 P),
  (295, ⟨.type "function", none, .func fd_names, ([] : List (Option Value)).toArray⟩),
  (299, ob_299 P),
  (300, ⟨.type "function", none, .func fd_met, ([] : List (Option Value)).toArray⟩),
  (304, ob_304 P),
  (305, ⟨.type "function", none, .func fd_law, ([] : List (Option Value)).toArray⟩)]
noncomputable def KA : List Addr := [2, 3, 54, 55, 61, 62, 68, 69, 89, 90, 99, 100, 110, 111, 117, 118, 127, 128, 132, 133, 134, 140, 141, 149, 155, 156, 162, 163, 200, 201, 258, 259, 261, 262, 270, 271, 275, 276, 282, 283, 289, 290, 294, 295, 299, 300, 304, 305]
noncomputable def vw : Program := { pw with main := { pw.main with body := [nthS pw.main.body 0, nthS pw.main.body 23] } }
noncomputable def loose3 : List Str := [Str.ofString "_wall", Str.ofString "Whitespace", Str.ofString "_MAX_STRING_SIZE", Str.ofString "_MOVE_COST", Str.ofString "_CASE_COST", Str.ofString "_substitution_cost", Str.ofString "_levenshtein_distance", Str.ofString "tspecials", Str.ofString "_name_disallowed_re", Str.ofString "_value_disallowed_re", Str.ofString "_formatparam", Str.ofString "Headers", Str.ofString "_law_lead", Str.ofString "_law_bars", Str.ofString "_law_columns", Str.ofString "_law_layers", Str.ofString "_law_names", Str.ofString "_law_met"]
theorem KA_ok : ∀ P, KA = (KK P).map (·.1) := fun _ => by kernel_rfl
noncomputable abbrev sQ := @PySem.W.Fast.tw10156331382660048174
noncomputable abbrev dQ := @PySem.W.Fast.tw11892475500146522536
noncomputable abbrev tQ := @PySem.W.Fast.tw14364793385576792824
noncomputable abbrev okQ := @PySem.W.Fast.tw6613529449190102663
noncomputable abbrev fQ := @PySem.W.Fast.tw14289696077712309145
noncomputable abbrev stQ := @PySem.W.Fast.tw1435165496053646825
noncomputable abbrev aQ := @PySem.W.Fast.tw3805553451399329143
noncomputable abbrev nsQ := @PySem.W.Fast.tw8920871248978507458
noncomputable abbrev mcQ := @PySem.W.Fast.tw17154629097778926822
noncomputable abbrev nbQ := @PySem.W.Fast.tw12822647523644345616
noncomputable abbrev osQ := @PySem.W.Fast.tw4187177175401517315
noncomputable abbrev wsQ := @PySem.W.Fast.tw9446332074065402090
theorem sQ_eq : @stepT = sQ := PySem.W.Fast.te10156331382660048174
theorem dQ_eq : @denote = dQ := PySem.W.Fast.te11892475500146522536
theorem tQ_eq : @treeTable = tQ := PySem.W.Fast.te14364793385576792824
theorem okQ_eq : @stepOk = okQ := PySem.W.Fast.te6613529449190102663
theorem fQ_eq : @fenceModules? = fQ := PySem.W.Fast.te14289696077712309145
theorem stQ_eq : @start = stQ := PySem.W.Fast.te1435165496053646825
theorem aQ_eq : @Thread.atExitBegin = aQ := PySem.W.Fast.te3805553451399329143
theorem nsQ_eq : @Heap.nsMap = nsQ := PySem.W.Fast.te8920871248978507458
theorem mcQ_eq : @moduleCode = @mcQ := PySem.W.Fast.te17154629097778926822
theorem nbQ_eq : @newBodyFrame = @nbQ := PySem.W.Fast.te12822647523644345616
theorem osQ_eq : @openSeen = osQ := PySem.W.Fast.te4187177175401517315
theorem wsQ_eq : @OpenLaw.wellSaid = wsQ := PySem.W.Fast.te9446332074065402090

/-- a heap's objects, laid as a tree -/
noncomputable def layB : List Obj → BT → Nat → Option (BT × Nat)
  | [], t, n => some (t, n)
  | o :: r, t, n => match ((t.ins n o).get n).isSome with
    | true => layB r (t.ins n o) (n + 1)
    | false => none
theorem layB_abs {life : Life} : ∀ {l : List Obj} {t t' : BT} {n n' : Nat}, layB l t n = some (t', n') → absHeap t' n' life = ⟨(absHeap t n life).objs ++ l.toArray, life⟩
  | [], t, t', n, n', h => by
    cases h
    exact congrArg (Heap.mk · life) Array.append_empty.symm
  | o :: r, t, t', n, n', h => by
    dsimp only [layB] at h
    cases hs : ((t.ins n o).get n).isSome with
    | false => rw [hs] at h; cases h
    | true =>
      rw [hs] at h
      rw [layB_abs h, absHeap_ins hs]
      refine congrArg (Heap.mk · life) (Array.ext' ?_)
      show ((absHeap t n life).objs.push o ++ r.toArray).toList = _
      rw [Array.toList_append, Array.toList_append, Array.toList_push, List.append_assoc]
      rfl
noncomputable def layT (s : Shared) : Option SharedT := (layB s.heap.objs.toList .nil 0).map fun x => ⟨x.1, x.2, s.heap.life, s.gens, s.drawn, s.toks, s.os⟩
theorem layT_abs {s : Shared} {a : SharedT} (h : layT s = some a) : a.abs = s := by
  obtain ⟨⟨t, n⟩, e, rfl⟩ := Option.map_eq_some_iff.mp h
  have e2 := (layB_abs (life := s.heap.life) e).trans (congrArg (Heap.mk · s.heap.life) Array.empty_append)
  exact congrArg (fun h => Shared.mk h s.gens s.drawn s.toks s.os) e2
noncomputable def stubQ (p : Program) : Thread :=
  ⟨do let code ← mcQ p.main p.main.file none
      let frame ← nbQ code mainNs mainNs builtinsNs
      let _ ← run (.body (behindTheImports p) { scope := p.main.scope, locals := mainNs, globals := mainNs, cells := [], code, frame := some frame })
      ret .none,
   .builtin "claim.caller" {}, default, []⟩
theorem stubQ_eq {p : Program} : topStub p = stubQ p := by
  unfold topStub stubQ
  rw [mcQ_eq, nbQ_eq]
/-- the machine's run over a tree, till d says that it is through (true) or stopped (false) -/
noncomputable def goQ (d : Thread → Option Bool) (p : Program) (w : World) : Nat → SharedT → Thread → Option SharedT
  | 0, _, _ => none
  | n + 1, s, t => match d t with
    | some true => some s
    | some false => none
    | none => match sQ (dQ tQ) p w s t with
      | some x => goQ d p w n x.1 x.2
      | none => none
theorem goQ_of {d : Thread → Option Bool} {p : Program} {w : World} {R : Nat → Shared → Thread → Option Shared} (h1 : ∀ n s t, d t = some true → R (n + 1) s t = some s)
    (h2 : ∀ n s t s' t', d t = none → step (denote treeTable) p w s t = .go s' t' → R (n + 1) s t = R n s' t') : ∀ {n : Nat} {s s' : SharedT} {t : Thread}, goQ d p w n s t = some s' → R n s.abs t = some s'.abs
  | 0, _, _, _, h => nomatch h
  | n + 1, s, s', t, h => by
    dsimp only [goQ] at h
    split at h
    · rename_i e
      cases h
      exact h1 _ _ _ e
    · cases h
    · rename_i e
      rw [← sQ_eq, ← dQ_eq, ← tQ_eq] at h
      split at h
      · rename_i x hs
        exact (h2 _ _ _ _ _ e (stepT_spec hs)).trans (goQ_of h1 h2 h)
      · cases h
noncomputable def dI (t : Thread) : Option Bool := (aQ t).map List.isEmpty
noncomputable def dT (n₀ : Nat) (ann : Option Value) (t : Thread) : Option Bool := match through t with
  | true => some true
  | false => match okQ n₀ ann t with
    | false => some false
    | true => none
theorem impQ_of {p : Program} {w : World} {n : Nat} {s s' : SharedT} {t : Thread} : goQ dI p w n s t = some s' → importEnds treeTable p w n s.abs t = some s'.abs :=
  goQ_of (R := importEnds treeTable p w) (fun n s t e => by
    unfold dI at e
    rw [← aQ_eq] at e
    obtain ⟨l, e, q⟩ := Option.map_eq_some_iff.mp e
    cases l with
    | nil => dsimp only [importEnds]; rw [e]
    | cons a b => cases q) fun n s t s' t' e h => by
    unfold dI at e
    rw [← aQ_eq] at e
    dsimp only [importEnds]
    rw [Option.map_eq_none_iff.mp e, h]
theorem topQ_of {p : Program} {w : World} {n₀ : Nat} {ann : Option Value} {n : Nat} {s s' : SharedT} {t : Thread} : goQ (dT n₀ ann) p w n s t = some s' → topRun treeTable p w n₀ ann n s.abs t = some s'.abs :=
  goQ_of (R := topRun treeTable p w n₀ ann) (fun n s t e => by
    dsimp only [topRun]
    unfold dT at e
    cases ht : through t with
    | true => rfl
    | false =>
      rw [ht] at e
      dsimp only at e
      split at e <;> cases e) fun n s t s' t' e h => by
    dsimp only [topRun]
    unfold dT at e
    rw [← okQ_eq] at e
    cases ht : through t with
    | true => rw [ht] at e; cases e
    | false =>
      rw [ht] at e
      dsimp only at e ⊢
      cases hk : stepOk n₀ ann t with
      | false => rw [hk] at e; cases e
      | true => rw [h]
noncomputable def runQ (p : Program) (w : World) (N : Nat) : Option (Shared × SharedT) :=
  (layT (stQ (opening p)).1).bind fun a => (goQ dI (opening p) w N a (stQ (opening p)).2).bind fun b => (fQ p b.abs).bind fun s₀ => (layT s₀).bind fun c =>
    (goQ (dT c.n (nsQ s₀.heap mainGlobals (Str.ofString "__annotations__"))) p w N c (stubQ p)).map fun d => (s₀, d)
/-- all that is looked at, once the top has run -/
noncomputable def lookQ (p q : Program) (loose : List Str) (Xt : Shared → Bool) {α : Type} (Yf : Shared → α) (s₀ s₁ : Shared) :=
  (s₀.heap.isNs mainGlobals && s₀.gens.size == 0, staticsOk (importedModules p.main.body) s₀.heap s₁.heap && namesBound p s₁.heap && gensDone s₁ && laidKept s₀.heap s₁.heap,
    osQ q loose (importedModules p.main.body) Xt true s₁, Yf s₁)
theorem left_of {p q : Program} {loose : List Str} {Xt : Shared → Bool} {α : Type} {Yf : Shared → α} {y : α} {w : World} {N : Nat}
    (h : (runQ p w N).map (fun x => lookQ p q loose Xt Yf x.1 x.2.abs) = some (true, true, openGood q loose, y)) :
    (openEnds treeTable p w N).map (fun s => (openSeen q loose (importedModules p.main.body) Xt true s, Yf s)) = some (openGood q loose, y) := by
  obtain ⟨⟨s₀, d⟩, h, e⟩ := Option.map_eq_some_iff.mp h
  unfold runQ at h
  rw [← stQ_eq, ← fQ_eq, ← nsQ_eq] at h
  obtain ⟨a, ha, h⟩ := Option.bind_eq_some_iff.mp h
  obtain ⟨b, hb, h⟩ := Option.bind_eq_some_iff.mp h
  obtain ⟨s, hs, h⟩ := Option.bind_eq_some_iff.mp h
  obtain ⟨c, hc, h⟩ := Option.bind_eq_some_iff.mp h
  obtain ⟨x, he, h⟩ := Option.map_eq_some_iff.mp h
  cases h
  have hb := impQ_of hb
  rw [layT_abs ha] at hb
  have he := topQ_of he
  have hn := absHeap_size c.tree c.n c.life
  have ec := layT_abs hc
  change c.abs.heap.objs.size = c.n at hn
  rw [ec] at he hn
  rw [← hn, ← stubQ_eq] at he
  unfold lookQ at e
  rw [← osQ_eq] at e
  obtain ⟨e1, e⟩ := Prod.mk.inj e
  obtain ⟨e2, e⟩ := Prod.mk.inj e
  obtain ⟨e3, e4⟩ := Prod.mk.inj e
  dsimp only at e1 e2 e3 e4
  unfold openEnds fencedOpening
  rw [hb]
  dsimp only [Option.bind_some]
  rw [hs]
  dsimp only [Option.bind_some, topFrom]
  rw [e1]
  dsimp only
  rw [he]
  dsimp only [Option.bind_some]
  rw [e2]
  dsimp only [Option.map_some]
  rw [e3, e4]
noncomputable abbrev PL (w : World) : Prop := (runQ pw w 4000).map (fun x => lookQ pw vw loose3 (fun s => xlAt vw [] s && recOk (RowW.records (OpenRow.toRowW (OpenLaw.row PySem.Challenge.rw_pm0081_01))) s) (Hook.obs (kHook KK KA KA_ok)) x.1 x.2.abs) = some (true, true, openGood vw loose3, Hook.val (kHook KK KA KA_ok) w)
theorem leftF : ∀ w : World, PL (w.withFollow "special-get-raises" false) := by
  intro w
  kernel_rfl
theorem leftT : ∀ w : World, PL (w.withFollow "special-get-raises" true) := by
  intro w
  kernel_rfl
theorem left3 : LeftO pw vw loose3 (fun s => xlAt vw [] s && recOk (RowW.records (OpenRow.toRowW (OpenLaw.row PySem.Challenge.rw_pm0081_01))) s) (Hook.obs (kHook KK KA KA_ok)) (Hook.val (kHook KK KA KA_ok)) 4000 := fun w => left_of (byRow2 "special-get-raises" (P := PL) leftF leftT w)
theorem lo3 : PySem.W.Fast.tw12908688711261696721 PySem.Challenge.pw_pm0081_01 = true := by kernel_rfl
theorem ws3 : OpenLaw.wellSaid PySem.Challenge.rw_pm0081_01 = true := by
  rw [wsQ_eq]
  delta wsQ PySem.W.Fast.tw9446332074065402090
  delta PySem.W.Fast.tw17960256430627541270
  delta PySem.W.Fast.tw2436336058641802641
  repeat' (with_reducible refine look_both ?_ ?_)
  exact lo3
  all_goals kernel_rfl
set_option maxHeartbeats 200000
set_option maxRecDepth 512

/-- frozen data: trees of objects that nobody changes any more -/
inductive D where
  | none
  | bool (b : Bool)
  | int (i : Int)
  | str (s : Str)
  | list (ds : List D)
  | tup (ds : List D)
  | rng (a b c : Int)
  | ws (ds : List D)
  | emp

noncomputable abbrev ObjAt := Addr → Obj → Prop

noncomputable def lstObj (vs : List Value) (n : Nat) : Obj := { cls := .type "list", data := .seq vs.toArray n }
noncomputable def tupObj (vs : List Value) (n : Nat) : Obj := { cls := .type "tuple", data := .seq vs.toArray n }

noncomputable def wsNames : List Str := ["raw", "n", "nt", "norm", "is_simple"]
noncomputable def keyName (e : DictEntry) : Option Str := match e.key with | .str s _ => some s | _ => Option.none

/-- the entries of an instance's dict: names and values -/
noncomputable def EntriesAre (es : List DictEntry) (ns : List Str) (vs : List Value) : Prop := es.map keyName = ns.map some ∧ es.map (·.val) = vs

mutual
/-- the value bears the tree; `C` is the class Whitespace's address -/
noncomputable def Rep (C : Addr) (P : ObjAt) : D → Value → Prop
  | .none, v => v = .none
  | .bool b, v => v = .bool b
  | .int i, v => ∃ t, v = .int i t
  | .str s, v => ∃ t, v = .str s t
  | .list ds, v => ∃ a vs n, v = .ref a ∧ P a (lstObj vs n) ∧ Reps C P ds vs
  | .tup ds, v => ∃ a vs n, v = .ref a ∧ P a (tupObj vs n) ∧ Reps C P ds vs
  | .rng x y z, v => ∃ a t u q, v = .ref a ∧ P a { cls := .type "range", data := .fields #[.int x t, .int y u, .int z q] }
  | .emp, v => ∃ a n, v = .ref a ∧ (a == sysModules) = false ∧ P a (dictOf [] n)
  | .ws ds, v => ∃ x dx es n vs, v = .ref x ∧ P x (instObj C dx) ∧ P dx (dictOf es n) ∧ EntriesAre es wsNames vs ∧ Reps C P ds vs
noncomputable def Reps (C : Addr) (P : ObjAt) : List D → List Value → Prop
  | [], vs => vs = []
  | d :: ds, vs => ∃ v r, vs = v :: r ∧ Rep C P d v ∧ Reps C P ds r
end

mutual
theorem Rep.mono {C : Addr} {P P' : ObjAt} (h : ∀ a o, P a o → P' a o) : ∀ {d : D} {v : Value}, Rep C P d v → Rep C P' d v
  | .none, _, x => x
  | .bool _, _, x => x
  | .int _, _, x => x
  | .str _, _, x => x
  | .list _, _, ⟨a, vs, n, e, p, r⟩ => ⟨a, vs, n, e, h _ _ p, Reps.mono h r⟩
  | .tup _, _, ⟨a, vs, n, e, p, r⟩ => ⟨a, vs, n, e, h _ _ p, Reps.mono h r⟩
  | .rng _ _ _, _, ⟨a, t, u, q, e, p⟩ => ⟨a, t, u, q, e, h _ _ p⟩
  | .emp, _, ⟨a, n, e, q, p⟩ => ⟨a, n, e, q, h _ _ p⟩
  | .ws _, _, ⟨x, dx, es, n, vs, e, p, q, k, r⟩ => ⟨x, dx, es, n, vs, e, h _ _ p, h _ _ q, k, Reps.mono h r⟩
theorem Reps.mono {C : Addr} {P P' : ObjAt} (h : ∀ a o, P a o → P' a o) : ∀ {ds : List D} {vs : List Value}, Reps C P ds vs → Reps C P' ds vs
  | [], _, x => x
  | _ :: _, _, ⟨v, r, e, x, y⟩ => ⟨v, r, e, Rep.mono h x, Reps.mono h y⟩
end

theorem Reps.length {C : Addr} {P : ObjAt} : ∀ {ds : List D} {vs : List Value}, Reps C P ds vs → vs.length = ds.length
  | [], _, x => by dsimp only [Reps] at x; rw [x]; rfl
  | _ :: _, _, x => by
    dsimp only [Reps] at x
    obtain ⟨v, r, rfl, _, y⟩ := x
    simp [Reps.length y]
theorem Reps.get {C : Addr} {P : ObjAt} : ∀ {ds : List D} {vs : List Value} {i : Nat} {d : D}, Reps C P ds vs → ds[i]? = some d → ∃ v, vs[i]? = some v ∧ Rep C P d v
  | [], _, _, _, _, e => by simp at e
  | _ :: ds, _, i, d, x, e => by
    dsimp only [Reps] at x
    obtain ⟨v, r, rfl, a, y⟩ := x
    cases i with
    | zero => simp at e; subst e; exact ⟨v, rfl, a⟩
    | succ i => simp at e; simpa using Reps.get y e
theorem Reps.nil {C : Addr} {P : ObjAt} : Reps C P [] [] := rfl
theorem Reps.cons {C : Addr} {P : ObjAt} {d ds v vs} (x : Rep C P d v) (y : Reps C P ds vs) : Reps C P (d :: ds) (v :: vs) := ⟨v, vs, rfl, x, y⟩
theorem Reps.append {C : Addr} {P : ObjAt} : ∀ {ds es : List D} {vs us : List Value}, Reps C P ds vs → Reps C P es us → Reps C P (ds ++ es) (vs ++ us)
  | [], _, _, _, x, y => by dsimp only [Reps] at x; subst x; exact y
  | _ :: _, _, _, _, x, y => by
    dsimp only [Reps] at x
    obtain ⟨v, r, rfl, a, z⟩ := x
    exact Reps.cons a (Reps.append z y)
theorem Reps.iff_get {C : Addr} {P : ObjAt} : ∀ {ds : List D} {vs : List Value}, vs.length = ds.length → (∀ (i : Nat) d v, ds[i]? = some d → vs[i]? = some v → Rep C P d v) → Reps C P ds vs
  | [], vs, hl, _ => by cases vs with | nil => rfl | cons => simp at hl
  | d :: ds, vs, hl, h => by
    cases vs with
    | nil => simp at hl
    | cons v vs => exact Reps.cons (h 0 d v rfl rfl) (Reps.iff_get (by simpa using hl) fun i d' v' a b => h (i + 1) d' v' (by simpa using a) (by simpa using b))
theorem Reps.set {C : Addr} {P : ObjAt} {ds : List D} {vs : List Value} {i : Nat} {d : D} {v : Value} (x : Reps C P ds vs) (y : Rep C P d v) : Reps C P (ds.set i d) (vs.set i v) := by
  refine Reps.iff_get (by simp [Reps.length x]) fun j d' v' hd hv => ?_
  rw [List.getElem?_set] at hd hv
  by_cases e : i = j
  · subst e
    simp only [if_true] at hd hv
    split at hd
    · split at hv
      · cases hd; cases hv; exact y
      · cases hv
    · cases hd
  · simp only [e, if_false] at hd hv
    obtain ⟨w, hw, z⟩ := Reps.get x hd
    rw [hv] at hw; cases hw; exact z
/-- a value of the walk -/
inductive V where
  | d (x : D)
  | lst (i : Nat)
  | inst (i : Nat)
  | stat (a : Addr)
  | ty (T : String)
  | pat (nm : Bool) (a : Addr)

/-- a tracked (mutable) object -/
inductive MObj where
  | lst (ds : List D)
  | inst (C : Addr) (ns : List Nat) (vs : List V)

structure St where
  σ : List MObj
  loc : List (Option V)

noncomputable abbrev Rho := List (Addr × Addr)
noncomputable def Rho.addrs (ρ : Rho) : List Addr := ρ.flatMap fun p => [p.1, p.2]

/-- the objects that stand still: alive, and none of the tracked or the frames' -/
noncomputable def Still (h : Heap) (mv : List Addr) : ObjAt := fun a o => h.get? a = some o ∧ a ∉ mv

noncomputable def VRep (C : Addr) (ρ : Rho) (P : ObjAt) : V → Value → Prop
  | .d x, v => Rep C P x v
  | .lst i, v => ∃ p, ρ[i]? = some p ∧ v = .ref p.1
  | .inst i, v => ∃ p, ρ[i]? = some p ∧ v = .ref p.1
  | .stat a, v => v = .ref a
  | .ty T, v => v = .type T
  | .pat _ a, v => v = .ref a
noncomputable def VReps (C : Addr) (ρ : Rho) (P : ObjAt) : List V → List Value → Prop
  | [], vs => vs = []
  | x :: xs, vs => ∃ v r, vs = v :: r ∧ VRep C ρ P x v ∧ VReps C ρ P xs r

theorem VRep.mono {C : Addr} {ρ ρ' : Rho} {P P' : ObjAt} (hρ : ∀ (i : Nat) p, ρ[i]? = some p → ρ'[i]? = some p) (h : ∀ a o, P a o → P' a o) : ∀ {x : V} {v : Value}, VRep C ρ P x v → VRep C ρ' P' x v
  | .d _, _, e => Rep.mono h e
  | .lst _, _, ⟨p, a, b⟩ => ⟨p, hρ _ _ a, b⟩
  | .inst _, _, ⟨p, a, b⟩ => ⟨p, hρ _ _ a, b⟩
  | .stat _, _, e => e
  | .ty _, _, e => e
  | .pat _ _, _, e => e
theorem VReps.mono {C : Addr} {ρ ρ' : Rho} {P P' : ObjAt} (hρ : ∀ (i : Nat) p, ρ[i]? = some p → ρ'[i]? = some p) (h : ∀ a o, P a o → P' a o) : ∀ {xs : List V} {vs : List Value}, VReps C ρ P xs vs → VReps C ρ' P' xs vs
  | [], _, e => e
  | _ :: _, _, ⟨v, r, e, x, y⟩ => ⟨v, r, e, VRep.mono hρ h x, VReps.mono hρ h y⟩
theorem VReps.cons {C : Addr} {ρ : Rho} {P : ObjAt} {x xs v vs} (a : VRep C ρ P x v) (b : VReps C ρ P xs vs) : VReps C ρ P (x :: xs) (v :: vs) := ⟨v, vs, rfl, a, b⟩
theorem VReps.length {C : Addr} {ρ : Rho} {P : ObjAt} : ∀ {xs : List V} {vs : List Value}, VReps C ρ P xs vs → vs.length = xs.length
  | [], _, x => by dsimp only [VReps] at x; rw [x]; rfl
  | _ :: _, _, x => by
    dsimp only [VReps] at x
    obtain ⟨v, r, rfl, _, y⟩ := x
    simp [VReps.length y]
theorem VReps.get {C : Addr} {ρ : Rho} {P : ObjAt} : ∀ {xs : List V} {vs : List Value} {i : Nat} {x : V}, VReps C ρ P xs vs → xs[i]? = some x → ∃ v, vs[i]? = some v ∧ VRep C ρ P x v
  | [], _, _, _, _, e => by simp at e
  | _ :: _, _, i, x, y, e => by
    dsimp only [VReps] at y
    obtain ⟨v, r, rfl, a, z⟩ := y
    cases i with
    | zero => simp at e; subst e; exact ⟨v, rfl, a⟩
    | succ i => simp at e; simpa using VReps.get z e
theorem VReps.append {C : Addr} {ρ : Rho} {P : ObjAt} : ∀ {xs ys : List V} {vs us : List Value}, VReps C ρ P xs vs → VReps C ρ P ys us → VReps C ρ P (xs ++ ys) (vs ++ us)
  | [], _, _, _, x, y => by dsimp only [VReps] at x; subst x; exact y
  | _ :: _, _, _, _, x, y => by
    dsimp only [VReps] at x
    obtain ⟨v, r, rfl, a, z⟩ := x
    exact VReps.cons a (VReps.append z y)

/-- what a global name stands for -/
inductive BV where
  | len | max | min | abs | sum | range | list | sorted | tuple | type | str | zip
  deriving DecidableEq
noncomputable def BV.val : BV → Value
  | .len => .builtin "len"
  | .max => .builtin "max"
  | .min => .builtin "min"
  | .abs => .builtin "abs"
  | .sum => .builtin "sum"
  | .range => .type "range"
  | .list => .type "list"
  | .sorted => .builtin "sorted"
  | .tuple => .type "tuple"
  | .type => .type "type"
  | .str => .type "str"
  | .zip => .type "zip"
inductive GV where
  | stat (a : Addr)
  | num (i : Int)
  | bi (v : BV)
  | pat (nm : Bool) (a : Addr)

/-- what the whole claim stands on: the program, the world, the written part, the heap of the start -/
structure Cx where
  prog : Program
  w : World
  K : Frag
  C : Addr
  /-- the text's own classes that are made -/
  cls : List Addr
  /-- the methods of the text's classes: class, name, def -/
  ms : Nat → Option (Addr × Str × Addr)
  /-- the globals: name, what it stands for -/
  g : Nat → Option (Str × GV)
  /-- the attributes' names; the first five are a Whitespace's -/
  an : Nat → Str
  /-- a class's texts: the class's global, the name, the text -/
  ca : Nat → Option (Nat × Str × Str)
  kwn : Str
  /-- whether the tokens are told to be under way -/
  pos : Bool
  s0 : Shared

noncomputable def MRep (c : Cx) (ρ : Rho) (P : ObjAt) (h : Heap) (p : Addr × Addr) : MObj → Prop
  | .lst ds => p.1 = p.2 ∧ ∃ vs n, h.get? p.1 = some (lstObj vs n) ∧ Reps c.C P ds vs
  | .inst K ns xs => K ∈ c.cls ∧ (∀ i ∈ ns, i < 6) ∧ p.1 ≠ p.2 ∧ ∃ es n vs, h.get? p.1 = some (instObj K p.2) ∧ h.get? p.2 = some (dictOf es n) ∧ EntriesAre es (ns.map c.an) vs ∧ es.length ≤ 100 ∧ VReps c.C ρ P xs vs


/-- the tracked objects and the rest of the state -/
structure Rel (c : Cx) (av : List Addr) (ρ : Rho) (σ : List MObj) (s : Shared) : Prop where
  base : ∀ b o, c.s0.heap.get? b = some o → s.heap.get? b = some o
  os : s.os = c.s0.os
  gens : s.gens = c.s0.gens
  toks : c.pos = true → 0 < s.toks
  len : ρ.length = σ.length
  objs : ∀ (i : Nat) p m, ρ[i]? = some p → σ[i]? = some m → MRep c ρ (Still s.heap (ρ.addrs ++ av)) s.heap p m
  apart : ∀ (i j : Nat) p q, ρ[i]? = some p → ρ[j]? = some q → i ≠ j → p.1 ≠ q.1 ∧ p.1 ≠ q.2 ∧ p.2 ≠ q.1 ∧ p.2 ≠ q.2
  off : ∀ a ∈ ρ.addrs, a ∉ av
  fresh : ∀ a, a ∈ ρ.addrs ∨ a ∈ av → c.s0.heap.get? a = none
  avs : ∀ a ∈ av, ∃ o, s.heap.get? a = some o



/-- where a slot is kept: under its name in a namespace, or in a cell -/
structure Sto where
  at_ : Addr
  cell : Bool

/-- the frame in which an expression is walked -/
structure Fx where
  env : Env
  A : Around
  nm : Nat → Str
  sto : Nat → Option Sto
  own : List Addr
  av : List Addr

noncomputable def Fx.mv (fx : Fx) (ρ : Rho) : List Addr := ρ.addrs ++ (fx.own ++ fx.av)

noncomputable def Held (h : Heap) (x : Str) (S : Sto) (val : Value) : Prop :=
  match S.cell with
  | false => ∃ m, h.Ns S.at_ m ∧ m x = some val
  | true => ∃ o, h.get? S.at_ = some o ∧ o.data = .cell (some val)

structure RelF (c : Cx) (fx : Fx) (ρ : Rho) (st : St) (s : Shared) : Prop where
  rel : Rel c (fx.own ++ fx.av) ρ st.σ s
  ns : ∃ m, s.heap.Ns fx.env.locals m
  lown : fx.env.locals ∈ fx.own
  slots : ∀ i v, st.loc[i]? = some (some v) → ∃ S val, fx.sto i = some S ∧ Held s.heap (fx.nm i) S val ∧ VRep c.C ρ (Still s.heap (fx.mv ρ)) v val
  stos : ∀ (i : Nat) S, fx.sto i = some S → S.at_ ∈ fx.own
  alive : ∀ (i : Nat) S, fx.sto i = some S → S.cell = true → ∃ o v, s.heap.get? S.at_ = some o ∧ o.data = .cell v
  nss : ∀ (i : Nat) S, fx.sto i = some S → S.cell = false → ∃ m, s.heap.Ns S.at_ m

structure Nxt (own : List Addr) (ρ : Rho) (s : Shared) (ρ' : Rho) (s' : Shared) : Prop where
  keep : ∀ b o, b ∉ ρ.addrs → b ∉ own → s.heap.get? b = some o → s'.heap.get? b = some o
  alive : ∀ b, s'.heap.get? b = none → s.heap.get? b = none
  pre : ∀ (i : Nat) p, ρ[i]? = some p → ρ'[i]? = some p
  new : ∀ a ∈ ρ'.addrs, a ∉ ρ.addrs → s.heap.get? a = none

theorem Rho.mem_addrs {ρ : Rho} {a : Addr} : a ∈ ρ.addrs ↔ ∃ (i : Nat) (p : Addr × Addr), ρ[i]? = some p ∧ (a = p.1 ∨ a = p.2) := by
  unfold Rho.addrs
  rw [List.mem_flatMap]
  constructor
  · rintro ⟨p, hp, ha⟩
    obtain ⟨i, hi⟩ := List.getElem?_of_mem hp
    exact ⟨i, p, hi, by simpa using ha⟩
  · rintro ⟨i, p, hi, ha⟩
    exact ⟨p, List.mem_of_getElem? hi, by simpa using ha⟩
theorem Rho.addrs_append {ρ τ : Rho} : (ρ ++ τ).addrs = ρ.addrs ++ τ.addrs := List.flatMap_append

section
variable {own : List Addr} {ρ ρ' ρ'' : Rho} {s s' s'' : Shared}
theorem Nxt.refl : Nxt own ρ s ρ s := ⟨fun _ _ _ _ e => e, fun _ e => e, fun _ _ e => e, fun _ h n => (n h).elim⟩
theorem Nxt.trans (x : Nxt own ρ s ρ' s') (y : Nxt own ρ' s' ρ'' s'') : Nxt own ρ s ρ'' s'' where
  keep := fun b o h1 h2 e => y.keep b o (fun h => by have := x.new b h h1; rw [this] at e; cases e) h2 (x.keep b o h1 h2 e)
  alive := fun b e => x.alive b (y.alive b e)
  pre := fun i p e => y.pre i p (x.pre i p e)
  new := fun a h n => by
    by_cases h' : a ∈ ρ'.addrs
    · exact x.new a h' n
    · exact x.alive a (y.new a h h')
theorem Nxt.still {av : List Addr} (x : Nxt own ρ s ρ' s') : ∀ a o, Still s.heap (ρ.addrs ++ (own ++ av)) a o → Still s'.heap (ρ'.addrs ++ (own ++ av)) a o := fun a o ⟨e, n⟩ => by
  simp only [List.mem_append, not_or] at n
  refine ⟨x.keep a o n.1 n.2.1 e, ?_⟩
  simp only [List.mem_append, not_or]
  exact ⟨fun h => (by have := x.new a h n.1; rw [this] at e; cases e), n.2⟩
/-- more frames' addresses may turn -/
theorem Nxt.more {own' : List Addr} (x : Nxt own ρ s ρ' s') (h : ∀ a ∈ own, a ∈ own') : Nxt own' ρ s ρ' s' :=
  ⟨fun b o h1 h2 e => x.keep b o h1 (fun q => h2 (h b q)) e, x.alive, x.pre, x.new⟩
/-- what was not alive need not be named -/
theorem Nxt.less {own' : List Addr} (x : Nxt own ρ s ρ' s') (h : ∀ a ∈ own, a ∈ own' ∨ s.heap.get? a = none) : Nxt own' ρ s ρ' s' :=
  ⟨fun b o h1 h2 e => x.keep b o h1 (fun q => (h b q).elim h2 fun z => by rw [z] at e; cases e) e, x.alive, x.pre, x.new⟩
end

theorem withT {α : Type} {M : Model} {A : Around} {t : Sem α} {Q : α → Shared → Prop} {E : Value → Shared → Prop} {s : Shared} (h : wpAny M A t (fun a s' => s.toks ≤ s'.toks → Q a s') E s) : wpAny M A t Q E s :=
  wpAny_with_toks (Nat.le_refl s.toks) (wpAny_mono h (fun _ _ x => x) fun _ _ x _ => x)

/-- nothing that stood has turned -/
structure Grow (s s' : Shared) : Prop where
  keep : ∀ b o, s.heap.get? b = some o → s'.heap.get? b = some o
  os : s'.os = s.os
  gens : s'.gens = s.gens
  toks : s.toks ≤ s'.toks
theorem Grow.refl {s : Shared} : Grow s s := ⟨fun _ _ e => e, rfl, rfl, Nat.le_refl _⟩
theorem Grow.tk {s : Shared} {t : Nat} (h : s.toks ≤ t := by first | assumption | exact Nat.le_refl _ | omega) : Grow s { s with toks := t } := ⟨fun _ _ e => e, rfl, rfl, h⟩
theorem Grow.heap {s : Shared} {h : Heap} {t : Nat} (k : ∀ b o, s.heap.get? b = some o → h.get? b = some o) (ht : s.toks ≤ t := by first | assumption | exact Nat.le_refl _ | omega) : Grow s { s with heap := h, toks := t } := ⟨k, rfl, rfl, ht⟩
theorem Grow.push {s : Shared} {o : Obj} : Grow s { s with heap := s.heap.push o } := ⟨fun _ _ e => Heap.get?_push_of_some _ e, rfl, rfl, Nat.le_refl _⟩

theorem Grow.nxt {own : List Addr} {ρ : Rho} {s s' : Shared} (g : Grow s s') : Nxt own ρ s ρ s' where
  keep := fun b o _ _ e => g.keep b o e
  alive := fun b e => by
    cases q : s.heap.get? b with
    | none => rfl
    | some o => rw [g.keep b o q] at e; cases e
  pre := fun _ _ e => e
  new := fun _ h n => (n h).elim

theorem MRep.mono {c : Cx} {ρ ρ' : Rho} {P P' : ObjAt} {h h' : Heap} {p : Addr × Addr} {m : MObj} (hρ : ∀ (i : Nat) q, ρ[i]? = some q → ρ'[i]? = some q) (hP : ∀ a o, P a o → P' a o)
    (hk : ∀ o, h.get? p.1 = some o → h'.get? p.1 = some o) (hk2 : ∀ o, h.get? p.2 = some o → h'.get? p.2 = some o) (x : MRep c ρ P h p m) : MRep c ρ' P' h' p m := by
  cases m with
  | lst ds => obtain ⟨e, vs, n, a, b⟩ := x; exact ⟨e, vs, n, hk _ a, b.mono hP⟩
  | inst K ns xs => obtain ⟨hK, h6, e, es, n, vs, a, b, d, l, r⟩ := x; exact ⟨hK, h6, e, es, n, vs, hk _ a, hk2 _ b, d, l, r.mono hρ hP⟩

theorem Held.keeps {h h' : Heap} {x : Str} {S : Sto} {val : Value} (H : Held h x S val) (k : ∀ o, h.get? S.at_ = some o → h'.get? S.at_ = some o) : Held h' x S val := by
  unfold Held at *
  split at H
  · obtain ⟨m, n, e⟩ := H; exact ⟨m, n.at' k, e⟩
  · obtain ⟨o, n, e⟩ := H; exact ⟨o, k _ n, e⟩

theorem Rel.grow {c : Cx} {av : List Addr} {ρ : Rho} {σ : List MObj} {s s' : Shared} (R : Rel c av ρ σ s) (g : Grow s s') : Rel c av ρ σ s' where
  base := fun b o e => g.keep b o (R.base b o e)
  os := g.os.trans R.os
  gens := g.gens.trans R.gens
  toks := fun h => Nat.lt_of_lt_of_le (R.toks h) g.toks
  len := R.len
  objs := fun i p m e f => (R.objs i p m e f).mono (fun _ _ e => e) (fun a o x => ⟨g.keep a o x.1, x.2⟩) (fun o => g.keep _ o) (fun o => g.keep _ o)
  apart := R.apart
  off := R.off
  fresh := R.fresh
  avs := fun a h => let ⟨o, e⟩ := R.avs a h; ⟨o, g.keep a o e⟩

theorem RelF.grow {c : Cx} {fx : Fx} {ρ : Rho} {st : St} {s s' : Shared} (R : RelF c fx ρ st s) (g : Grow s s') : RelF c fx ρ st s' where
  rel := R.rel.grow g
  ns := let ⟨m, x⟩ := R.ns; ⟨m, x.keeps g.keep⟩
  lown := R.lown
  slots := fun i v e => let ⟨S, val, a, b, d⟩ := R.slots i v e; ⟨S, val, a, b.keeps fun o => g.keep _ o, d.mono (fun _ _ e => e) fun a o x => ⟨g.keep a o x.1, x.2⟩⟩
  stos := R.stos
  alive := fun i S e h => let ⟨o, v, a, b⟩ := R.alive i S e h; ⟨o, v, g.keep _ _ a, b⟩
  nss := fun i S e h => let ⟨m, a⟩ := R.nss i S e h; ⟨m, a.keeps g.keep⟩

theorem Rho.get_append_old {ρ τ : Rho} {i : Nat} {p : Addr × Addr} (e : ρ[i]? = some p) : (ρ ++ τ)[i]? = some p := by
  rw [List.getElem?_append_left (List.getElem?_eq_some_iff.mp e).1]; exact e

/-- a new tracked object -/
theorem Rel.track {c : Cx} {av : List Addr} {ρ : Rho} {σ : List MObj} {s s' : Shared} {p : Addr × Addr} {m : MObj} (R : Rel c av ρ σ s) (g : Grow s s')
    (h1 : s.heap.get? p.1 = none) (h2 : s.heap.get? p.2 = none)
    (hm : MRep c (ρ ++ [p]) (Still s'.heap ((ρ ++ [p]).addrs ++ av)) s'.heap p m) : Rel c av (ρ ++ [p]) (σ ++ [m]) s' := by
  have old : ∀ (i : Nat) q, ρ[i]? = some q → s.heap.get? q.1 ≠ none ∧ s.heap.get? q.2 ≠ none := fun i q e => by
    have hi : i < σ.length := by rw [← R.len]; exact (List.getElem?_eq_some_iff.mp e).1
    have := R.objs i q σ[i] e (List.getElem?_eq_getElem hi)
    cases hσ : σ[i] with
    | lst ds => rw [hσ] at this; obtain ⟨e1, vs, n, a, b⟩ := this; exact ⟨by rw [a]; simp, by rw [← e1, a]; simp⟩
    | inst K ns xs => rw [hσ] at this; obtain ⟨_, _, e1, es, n, vs, a, b, _⟩ := this; exact ⟨by rw [a]; simp, by rw [b]; simp⟩
  have still : ∀ a o, Still s.heap (ρ.addrs ++ av) a o → Still s'.heap ((ρ ++ [p]).addrs ++ av) a o := fun a o x => ⟨g.keep a o x.1, by
    have := x.2
    simp only [Rho.addrs_append, List.mem_append, not_or] at this ⊢
    refine ⟨⟨this.1, ?_⟩, this.2⟩
    intro ha
    have : a = p.1 ∨ a = p.2 := by simpa [Rho.addrs] using ha
    rcases this with rfl | rfl
    · have e := x.1; rw [h1] at e; cases e
    · have e := x.1; rw [h2] at e; cases e⟩
  have getp : ∀ (i : Nat) q, (ρ ++ [p])[i]? = some q → (ρ[i]? = some q) ∨ (i = ρ.length ∧ q = p) := fun i q e => by
    rcases Nat.lt_or_ge i ρ.length with h | h
    · rw [List.getElem?_append_left h] at e; exact .inl e
    · rw [List.getElem?_append_right h] at e
      have hi : i - ρ.length = 0 := by
        have := (List.getElem?_eq_some_iff.mp e).1; simp at this; omega
      rw [hi] at e; simp at e
      exact .inr ⟨by omega, e.symm⟩
  refine { base := fun b o e => g.keep b o (R.base b o e), os := g.os.trans R.os, gens := g.gens.trans R.gens, toks := fun h => Nat.lt_of_lt_of_le (R.toks h) g.toks, len := by simp [R.len], objs := ?_, apart := ?_, off := ?_, fresh := ?_, avs := fun a h => let ⟨o, e⟩ := R.avs a h; ⟨o, g.keep a o e⟩ }
  · intro i q m' e f
    rcases getp i q e with h | ⟨rfl, rfl⟩
    · have hi : i < σ.length := by rw [← R.len]; exact (List.getElem?_eq_some_iff.mp h).1
      rw [List.getElem?_append_left hi] at f
      exact (R.objs i q m' h f).mono (fun _ _ e => Rho.get_append_old e) still (fun o => g.keep _ o) (fun o => g.keep _ o)
    · rw [R.len, List.getElem?_append_right (Nat.le_refl _)] at f
      simp at f; subst f
      exact hm
  · intro i j q r e f hij
    rcases getp i q e with h | ⟨rfl, rfl⟩ <;> rcases getp j r f with h' | ⟨rfl, rfl⟩
    · exact R.apart i j q r h h' hij
    · obtain ⟨a, b⟩ := old i q h
      exact ⟨fun z => a (z ▸ h1), fun z => a (z ▸ h2), fun z => b (z ▸ h1), fun z => b (z ▸ h2)⟩
    · obtain ⟨a, b⟩ := old j r h'
      exact ⟨fun z => a (z ▸ h1), fun z => b (z ▸ h1), fun z => a (z ▸ h2), fun z => b (z ▸ h2)⟩
    · exact absurd rfl hij
  · intro a ha hav
    rw [Rho.addrs_append, List.mem_append] at ha
    rcases ha with ha | ha
    · exact R.off a ha hav
    · obtain ⟨o, e⟩ := R.avs a hav
      have : a = p.1 ∨ a = p.2 := by simpa [Rho.addrs] using ha
      rcases this with rfl | rfl
      · rw [h1] at e; cases e
      · rw [h2] at e; cases e
  · intro a ha
    rcases ha with ha | ha
    · rw [Rho.addrs_append, List.mem_append] at ha
      rcases ha with ha | ha
      · exact R.fresh a (.inl ha)
      · cases q : c.s0.heap.get? a with
        | none => rfl
        | some o =>
          have e := R.base a o q
          have : a = p.1 ∨ a = p.2 := by simpa [Rho.addrs] using ha
          rcases this with rfl | rfl
          · rw [h1] at e; cases e
          · rw [h2] at e; cases e
    · exact R.fresh a (.inr ha)

theorem Grow.nxt_track {own : List Addr} {ρ : Rho} {s s' : Shared} {p : Addr × Addr} (g : Grow s s') (h1 : s.heap.get? p.1 = none) (h2 : s.heap.get? p.2 = none) : Nxt own ρ s (ρ ++ [p]) s' where
  keep := fun b o _ _ e => g.keep b o e
  alive := (g.nxt (own := own) (ρ := ρ)).alive
  pre := fun _ _ e => Rho.get_append_old e
  new := fun a h n => by
    rw [Rho.addrs_append, List.mem_append] at h
    rcases h with h | h
    · exact (n h).elim
    · have : a = p.1 ∨ a = p.2 := by simpa [Rho.addrs] using h
      rcases this with rfl | rfl <;> assumption

theorem RelF.track {c : Cx} {fx : Fx} {ρ : Rho} {st : St} {s s' : Shared} {p : Addr × Addr} {m : MObj} (R : RelF c fx ρ st s) (g : Grow s s')
    (h1 : s.heap.get? p.1 = none) (h2 : s.heap.get? p.2 = none)
    (hm : MRep c (ρ ++ [p]) (Still s'.heap (fx.mv (ρ ++ [p]))) s'.heap p m) : RelF c fx (ρ ++ [p]) ⟨st.σ ++ [m], st.loc⟩ s' where
  rel := R.rel.track g h1 h2 hm
  ns := let ⟨m, x⟩ := R.ns; ⟨m, x.keeps g.keep⟩
  lown := R.lown
  slots := fun i v e => let ⟨S, val, a, b, d⟩ := R.slots i v e; ⟨S, val, a, b.keeps fun o => g.keep _ o, d.mono (fun _ _ e => Rho.get_append_old e) (g.nxt_track h1 h2).still⟩
  stos := R.stos
  alive := fun i S e h => let ⟨o, v, a, b⟩ := R.alive i S e h; ⟨o, v, g.keep _ _ a, b⟩
  nss := fun i S e h => let ⟨m, a⟩ := R.nss i S e h; ⟨m, a.keeps g.keep⟩



/-- the machine words of the two patterns -/
noncomputable def patCode : Bool → List Nat
  | true => [14, 10, 4, 1, 1, 22, 0, 31, 16, 127, 0, 13, 7, 22, 0, 31, 16, 127, 0, 1]
  | false => [14, 14, 4, 1, 1, 9, 4294966783, 0, 0, 2147483648, 0, 0, 0, 0, 0, 13, 11, 9, 4294966783, 0, 0, 2147483648, 0, 0, 0, 0, 0, 1]
noncomputable def PatAt (h : Heap) (nm : Bool) (a : Addr) : Prop :=
  ∃ v0 v1 l n, h.get? a = some { cls := .type "re.Pattern", data := .fields #[v0, v1, .int 0 0, .none, .none, .ref l, .int 0 0] } ∧ h.get? l = some (tupObj ((patCode nm).map fun (i : Nat) => Value.int (i : Int) 0) n)

structure Ok (c : Cx) : Prop where
  In : c.K.In c.s0.heap
  an : ∀ i j, i < 6 → j < 6 → c.an i = c.an j → i = j
  wsC : c.C ∈ c.cls
  inst : ∀ C ∈ c.cls, plainGet c.K C "" = true ∧ hasDictIn c.K C = true ∧ findIn c.K (.ref C) "__setattr__" = some (some (.builtin "object.__setattr__")) ∧ plainOver c.K C = true ∧ ∀ i < 6, findIn c.K (.ref C) (c.an i) = some none ∧ takerIn c.K C (c.an i) = some none
  ws : wsNames = (List.range 5).map c.an
  keeps : ∀ i x a, c.g i = some (x, .stat a) → keepIn c.K (.ref a) = true
  ms : ∀ i C x f, c.ms i = some (C, x, f) → plainGet c.K C x = true ∧ findIn c.K (.ref C) x = some (some (.ref f)) ∧ isFn c.K (.ref f) = true ∧ keepIn c.K (.ref f) = true ∧ C ∈ c.cls ∧ ∀ i < 6, c.an i ≠ x
  ca : ∀ i g x v, c.ca i = some (g, x, v) → ∃ y a mc t, c.g g = some (y, .stat a) ∧ typeIn c.K (.ref a) = some mc ∧ readsIn c.K a mc = true ∧ findCls c.K (.ref a) mc x = some (.val (.str v t)) ∧ handedIn (.str v t) = true
  mg : ∃ m, c.s0.heap.Ns mainGlobals m ∧ ∃ mb, c.s0.heap.Ns builtinsNs mb ∧ ∀ i x v, c.g i = some (x, v) → (x == ("__debug__" : Str)) = false ∧ (match v with
    | .stat a => m x = some (.ref a)
    | .num n => ∃ t, m x = some (.int n t)
    | .bi b => m x = none ∧ mb x = some b.val
    | .pat _ a => m x = some (.ref a))
  nolimit : c.s0.heap.NoLimit
  pat : ∀ i x nm a, c.g i = some (x, .pat nm a) → PatAt c.s0.heap nm a

/-- the names that the walk may use in a frame -/
structure Vis where
  slots : List Nat
  cells : List Nat
  stores : List Nat
  globs : List Nat
  /-- slots that the frame does not use -/
  free : List Nat

/-- room for calls -/
structure Room (r : Nat) (A : Around) : Prop where
  handled : A.handled = none
  depth : A.depth + r < recursionLimit
  units : A.units + 20 * r + 200 < cLine

structure FxOk (c : Cx) (r : Nat) (fx : Fx) (vs : Vis) : Prop where
  kind : fx.env.scope.kind = .function
  globals : fx.env.globals = mainGlobals
  builtins : fx.env.builtins = builtinsNs
  slot : ∀ i ∈ vs.slots, (fx.nm i == ("__debug__" : Str)) = false ∧ (fx.nm i == ("__classdict__" : Str)) = false ∧
    ((i ∉ vs.cells ∧ fx.env.kindOf (fx.nm i) = some .local ∧ fx.sto i = some ⟨fx.env.locals, false⟩) ∨ (i ∈ vs.cells ∧ (fx.env.kindOf (fx.nm i) = some .cell ∨ fx.env.kindOf (fx.nm i) = some .free) ∧ ∃ a, fx.env.cells.lookup (fx.nm i) = some a ∧ fx.sto i = some ⟨a, true⟩))
  store : ∀ i ∈ vs.stores, i ∈ vs.slots ∧ fx.env.kindOf (fx.nm i) ≠ some .free
  glob : ∀ i ∈ vs.globs, ∃ x v, c.g i = some (x, v) ∧ fx.env.kindOf x = some .globalImplicit
  inj : ∀ (i j : Nat) S T, i ≠ j → fx.sto i = some S → fx.sto j = some T → S.at_ = T.at_ → S.cell = false ∧ T.cell = false ∧ fx.nm i ≠ fx.nm j
  room : Room r fx.A
  free : ∀ i ∈ vs.free, fx.sto i = none
  loc : ∃ i, fx.sto i = some ⟨fx.env.locals, false⟩

noncomputable def TE (c : Cx) (fx : Fx) (t : Sem Value) (st : St) (k : V → St → Prop) : Prop :=
  ∀ ρ s Q E, RelF c fx ρ st s →
    (∀ v st' ρ' val s', RelF c fx ρ' st' s' → Nxt fx.own ρ s ρ' s' → VRep c.C ρ' (Still s'.heap (fx.mv ρ')) v val → k v st' → Q val s') →
    wpAny (model c.prog c.w) fx.A t Q E s
noncomputable def TEs (c : Cx) (fx : Fx) (t : Sem (List Value)) (st : St) (k : List V → St → Prop) : Prop :=
  ∀ ρ s Q E, RelF c fx ρ st s →
    (∀ v st' ρ' val s', RelF c fx ρ' st' s' → Nxt fx.own ρ s ρ' s' → VReps c.C ρ' (Still s'.heap (fx.mv ρ')) v val → k v st' → Q val s') →
    wpAny (model c.prog c.w) fx.A t Q E s
noncomputable def TB (c : Cx) (fx : Fx) (t : Sem Bool) (st : St) (k : Bool → St → Prop) : Prop :=
  ∀ ρ s Q E, RelF c fx ρ st s →
    (∀ b st' ρ' s', RelF c fx ρ' st' s' → Nxt fx.own ρ s ρ' s' → k b st' → Q b s') →
    wpAny (model c.prog c.w) fx.A t Q E s
noncomputable def TU (c : Cx) (fx : Fx) (t : Sem Unit) (st : St) (k : St → Prop) : Prop :=
  ∀ ρ s Q E, RelF c fx ρ st s →
    (∀ st' ρ' s', RelF c fx ρ' st' s' → Nxt fx.own ρ s ρ' s' → k st' → Q () s') →
    wpAny (model c.prog c.w) fx.A t Q E s
/-- an operation upon values -/
noncomputable def TO (c : Cx) (fx : Fx) (t : List Value → Sem Value) (xs : List V) (st : St) (k : V → St → Prop) : Prop :=
  ∀ ρ s Q E vals, RelF c fx ρ st s → VReps c.C ρ (Still s.heap (fx.mv ρ)) xs vals →
    (∀ v st' ρ' val s', RelF c fx ρ' st' s' → Nxt fx.own ρ s ρ' s' → VRep c.C ρ' (Still s'.heap (fx.mv ρ')) v val → k v st' → Q val s') →
    wpAny (model c.prog c.w) fx.A (t vals) Q E s
noncomputable def TOB (c : Cx) (fx : Fx) (t : List Value → Sem Bool) (xs : List V) (st : St) (k : Bool → St → Prop) : Prop :=
  ∀ ρ s Q E vals, RelF c fx ρ st s → VReps c.C ρ (Still s.heap (fx.mv ρ)) xs vals →
    (∀ b st' ρ' s', RelF c fx ρ' st' s' → Nxt fx.own ρ s ρ' s' → k b st' → Q b s') →
    wpAny (model c.prog c.w) fx.A (t vals) Q E s
noncomputable def TOU (c : Cx) (fx : Fx) (t : List Value → Sem Unit) (xs : List V) (st : St) (k : St → Prop) : Prop :=
  ∀ ρ s Q E vals, RelF c fx ρ st s → VReps c.C ρ (Still s.heap (fx.mv ρ)) xs vals →
    (∀ st' ρ' s', RelF c fx ρ' st' s' → Nxt fx.own ρ s ρ' s' → k st' → Q () s') →
    wpAny (model c.prog c.w) fx.A (t vals) Q E s

inductive FV where
  | next | brk | cont | ret (v : V)
noncomputable def FRep (C : Addr) (ρ : Rho) (P : ObjAt) : FV → Flow → Prop
  | .next, f => f = .next
  | .brk, f => f = .brk
  | .cont, f => f = .cont
  | .ret v, f => ∃ val, f = .ret val ∧ VRep C ρ P v val
noncomputable def TS (c : Cx) (fx : Fx) (t : Sem Flow) (st : St) (k : FV → St → Prop) : Prop :=
  ∀ ρ s Q E, RelF c fx ρ st s →
    (∀ f st' ρ' fl s', RelF c fx ρ' st' s' → Nxt fx.own ρ s ρ' s' → FRep c.C ρ' (Still s'.heap (fx.mv ρ')) f fl → k f st' → Q fl s') →
    wpAny (model c.prog c.w) fx.A t Q E s

section
variable {c : Cx} {r : Nat} {fx : Fx} {vs : Vis} {st : St}

theorem VRep.nxt {ρ ρ' : Rho} {s s' : Shared} {own av : List Addr} {C : Addr} {x : V} {v : Value} (r : VRep C ρ (Still s.heap (ρ.addrs ++ (own ++ av))) x v) (N : Nxt own ρ s ρ' s') : VRep C ρ' (Still s'.heap (ρ'.addrs ++ (own ++ av))) x v :=
  r.mono N.pre N.still
theorem VReps.nxt {ρ ρ' : Rho} {s s' : Shared} {own av : List Addr} {C : Addr} {x : List V} {v : List Value} (r : VReps C ρ (Still s.heap (ρ.addrs ++ (own ++ av))) x v) (N : Nxt own ρ s ρ' s') : VReps C ρ' (Still s'.heap (ρ'.addrs ++ (own ++ av))) x v :=
  r.mono N.pre N.still

theorem VRep.int {C : Addr} {ρ : Rho} {P : ObjAt} {i : Int} {t : Tok} : VRep C ρ P (.d (.int i)) (.int i t) := ⟨t, rfl⟩
theorem VRep.str {C : Addr} {ρ : Rho} {P : ObjAt} {i : Str} {t : Tok} : VRep C ρ P (.d (.str i)) (.str i t) := ⟨t, rfl⟩
theorem VRep.bool {C : Addr} {ρ : Rho} {P : ObjAt} {b : Bool} : VRep C ρ P (.d (.bool b)) (.bool b) := rfl
theorem VRep.none {C : Addr} {ρ : Rho} {P : ObjAt} : VRep C ρ P (.d .none) .none := rfl
theorem VRep.stat {C : Addr} {ρ : Rho} {P : ObjAt} {a : Addr} : VRep C ρ P (.stat a) (.ref a) := rfl
theorem VReps.nil {C : Addr} {ρ : Rho} {P : ObjAt} : VReps C ρ P [] [] := rfl

theorem TE_mono {t : Sem Value} {k k' : V → St → Prop} (h : TE c fx t st k) (hk : ∀ v s, k v s → k' v s) : TE c fx t st k' :=
  fun ρ s Q E R q => h ρ s Q E R fun v st' ρ' val s' a b d e => q v st' ρ' val s' a b d (hk _ _ e)

theorem TE_int {i : Int} {kd : Nat} {p : Pos} {k : V → St → Prop} (h : k (.d (.int i)) st) : TE c fx (eval (.Constant (.int i) kd p) fx.env) st k :=
  fun _ _ _ _ R q => wpAny_Constant_int (q _ _ _ _ _ (R.grow .tk) (Grow.nxt .tk) .int h)
theorem TE_str {x : Str} {kd : Nat} {p : Pos} {k : V → St → Prop} (h : k (.d (.str x)) st) : TE c fx (eval (.Constant (.str x) kd p) fx.env) st k :=
  fun _ _ _ _ R q => wpAny_Constant_str (q _ _ _ _ _ (R.grow .tk) (Grow.nxt .tk) .str h)
theorem TE_bool {b : Bool} {kd : Nat} {p : Pos} {k : V → St → Prop} (h : k (.d (.bool b)) st) : TE c fx (eval (.Constant (.bool b) kd p) fx.env) st k :=
  fun _ _ _ _ R q => wpAny_Constant_bool (q _ _ _ _ _ R .refl .bool h)
theorem TE_none {kd : Nat} {p : Pos} {k : V → St → Prop} (h : k (.d .none) st) : TE c fx (eval (.Constant .none kd p) fx.env) st k :=
  fun _ _ _ _ R q => wpAny_Constant_none (q _ _ _ _ _ R .refl .none h)

/-- a slot is read -/
theorem load_slot (ok : FxOk c r fx vs) {ρ : Rho} {s : Shared} {Q : Value → Shared → Prop} {E : Value → Shared → Prop} {i : Nat} {v : V} (R : RelF c fx ρ st s) (hi : i ∈ vs.slots) (hl : st.loc[i]? = some (some v))
    (q : ∀ val, VRep c.C ρ (Still s.heap (fx.mv ρ)) v val → Q val s) : wpAny (model c.prog c.w) fx.A (loadName fx.env (fx.nm i)) Q E s := by
  obtain ⟨S, val, hS, H, r⟩ := R.slots i v hl
  obtain ⟨_, hcd, h⟩ := ok.slot i hi
  rcases h with ⟨_, hk, hs⟩ | ⟨_, hk, a, ha, hs⟩
  · rw [hs] at hS; cases hS
    obtain ⟨m, hn, he⟩ := H
    exact wpAny_loadName_local ok.kind hk hn he (q val r)
  · rw [hs] at hS; cases hS
    obtain ⟨o, ho, hd⟩ := H
    rcases hk with hk | hk
    · exact wpAny_loadName_cell ok.kind hk ha ⟨o, ho, hd⟩ (q val r)
    · exact wpAny_loadName_free ok.kind hk ha ⟨o, ho, hd⟩ (q val r) hcd
theorem TE_var (ok : FxOk c r fx vs) {i : Nat} {p : Pos} {v : V} {k : V → St → Prop} (hi : i ∈ vs.slots) (hl : st.loc[i]? = some (some v)) (h : k v st) : TE c fx (eval (.Name (fx.nm i) p) fx.env) st k :=
  fun _ _ _ _ R q => wpAny_Name (load_slot ok R hi hl fun _ r => q _ _ _ _ _ R .refl r h) (ok.slot i hi).1

/-- a global name is read -/
theorem load_glob (O : Ok c) (ok : FxOk c r fx vs) {ρ : Rho} {s : Shared} {Q : Value → Shared → Prop} {E : Value → Shared → Prop} {i : Nat} {x : Str} {v : GV} {p : Pos} (R : RelF c fx ρ st s) (hi : i ∈ vs.globs) (hg : c.g i = some (x, v))
    (q : ∀ val, (match v with | .stat a => val = .ref a | .num n => ∃ t, val = .int n t | .bi b => val = b.val | .pat _ a => val = .ref a) → Q val s) : wpAny (model c.prog c.w) fx.A (eval (.Name x p) fx.env) Q E s := by
  obtain ⟨x', v', e, hk⟩ := ok.glob i hi
  rw [hg] at e; cases e
  obtain ⟨m, hn, mb, hb, hh⟩ := O.mg
  obtain ⟨hd, hv⟩ := hh i x v hg
  have hn' := hn.keeps R.rel.base
  have hb' := hb.keeps R.rel.base
  rw [← ok.globals] at hn'
  rw [← ok.builtins] at hb'
  refine Calls.Name_function_global ok.kind hk ?_ hd
  cases v with
  | stat a => exact Calls.loadGlobal_global hn' hv (q _ rfl)
  | num n => obtain ⟨t, hv⟩ := hv; exact Calls.loadGlobal_global hn' hv (q _ ⟨t, rfl⟩)
  | bi b => exact Calls.loadGlobal_builtin hn' hv.1 hb' hv.2 (q _ rfl)
  | pat nm a => exact Calls.loadGlobal_global hn' hv (q _ rfl)
theorem TE_gnum (O : Ok c) (ok : FxOk c r fx vs) {i : Nat} {x : Str} {n : Int} {p : Pos} {k : V → St → Prop} (hi : i ∈ vs.globs) (hg : c.g i = some (x, .num n)) (h : k (.d (.int n)) st) : TE c fx (eval (.Name x p) fx.env) st k :=
  fun _ _ _ _ R q => load_glob O ok R hi hg fun _ hv => (by obtain ⟨t, rfl⟩ := hv; exact q _ _ _ _ _ R .refl .int h)
theorem TE_gstat (O : Ok c) (ok : FxOk c r fx vs) {i : Nat} {x : Str} {a : Addr} {p : Pos} {k : V → St → Prop} (hi : i ∈ vs.globs) (hg : c.g i = some (x, .stat a)) (h : k (.stat a) st) : TE c fx (eval (.Name x p) fx.env) st k :=
  fun _ _ _ _ R q => load_glob O ok R hi hg fun _ hv => (by cases hv; exact q _ _ _ _ _ R .refl .stat h)

theorem TE_bin {op : Operator} {a b : Expr} {p : Pos} {k : V → St → Prop}
    (h : TE c fx (eval a fx.env) st fun x st1 => TE c fx (eval b fx.env) st1 fun y st2 => TO c fx (fun vs => binaryOp op (vs.getD 0 .none) (vs.getD 1 .none)) [x, y] st2 k) : TE c fx (eval (.BinOp a op b p) fx.env) st k :=
  fun ρ s Q E R q => wpAny_BinOp (h ρ s _ _ R fun x st1 ρ1 val1 s1 R1 N1 r1 h1 => h1 ρ1 s1 _ _ R1 fun y st2 ρ2 val2 s2 R2 N2 r2 h2 =>
    h2 ρ2 s2 Q E [val1, val2] R2 (.cons (r1.nxt N2) (.cons r2 rfl)) fun v st3 ρ3 val3 s3 R3 N3 r3 h3 => q _ _ _ _ _ R3 (N1.trans (N2.trans N3)) r3 h3)
theorem TE_cmp {op : CmpOp} {a b : Expr} {p : Pos} {k : V → St → Prop} (hm : behindInMarks op b = false)
    (h : TE c fx (eval a fx.env) st fun x st1 => TE c fx (eval b fx.env) st1 fun y st2 => TO c fx (fun vs => compareOp op (vs.getD 0 .none) (vs.getD 1 .none)) [x, y] st2 k) : TE c fx (eval (.Compare a [op] [b] p) fx.env) st k :=
  fun ρ s Q E R q => wpAny_Compare1 (h ρ s _ _ R fun x st1 ρ1 val1 s1 R1 N1 r1 h1 => h1 ρ1 s1 _ _ R1 fun y st2 ρ2 val2 s2 R2 N2 r2 h2 =>
    h2 ρ2 s2 Q E [val1, val2] R2 (.cons (r1.nxt N2) (.cons r2 rfl)) fun v st3 ρ3 val3 s3 R3 N3 r3 h3 => q _ _ _ _ _ R3 (N1.trans (N2.trans N3)) r3 h3) hm
theorem TE_un {op : UnaryOp} {a : Expr} {p : Pos} {k : V → St → Prop}
    (h : TE c fx (eval a fx.env) st fun x st1 => TO c fx (fun vs => unaryOp op (vs.getD 0 .none)) [x] st1 k) : TE c fx (eval (.UnaryOp op a p) fx.env) st k :=
  fun ρ s Q E R q => wpAny_UnaryOp (h ρ s _ _ R fun x st1 ρ1 val1 s1 R1 N1 r1 h1 =>
    h1 ρ1 s1 Q E [val1] R1 (.cons r1 rfl) fun v st3 ρ3 val3 s3 R3 N3 r3 h3 => q _ _ _ _ _ R3 (N1.trans N3) r3 h3)
theorem TE_ife {t a b : Expr} {p : Pos} {k : V → St → Prop}
    (h : TB c fx (isTrue t fx.env (eval t fx.env)) st fun z st1 => (z = true → TE c fx (eval a fx.env) st1 k) ∧ (z = false → TE c fx (eval b fx.env) st1 k)) : TE c fx (eval (.IfExp t a b p) fx.env) st k :=
  fun ρ s Q E R q => wpAny_IfExp (h ρ s _ _ R fun z st1 ρ1 s1 R1 N1 h1 => by
    cases z with
    | true => exact h1.1 rfl ρ1 s1 Q E R1 fun v st3 ρ3 val3 s3 R3 N3 r3 h3 => q _ _ _ _ _ R3 (N1.trans N3) r3 h3
    | false => exact h1.2 rfl ρ1 s1 Q E R1 fun v st3 ρ3 val3 s3 R3 N3 r3 h3 => q _ _ _ _ _ R3 (N1.trans N3) r3 h3)

/-- tests -/
theorem TB_value {e : Expr} {k : Bool → St → Prop} (he : ∀ whole, isTrue e fx.env whole = (do let v ← whole; standAt e.pos; holding [v] (truthy v)))
    (h : TE c fx (eval e fx.env) st fun x st1 => TOB c fx (fun vs => truthy (vs.getD 0 .none)) [x] st1 k) : TB c fx (isTrue e fx.env (eval e fx.env)) st k :=
  fun ρ s Q E R q => wpAny_isTrue_value (h ρ s _ _ R fun x st1 ρ1 val1 s1 R1 N1 r1 h1 =>
    h1 ρ1 s1 Q E [val1] R1 (.cons r1 rfl) fun b st3 ρ3 s3 R3 N3 h3 => q _ _ _ _ R3 (N1.trans N3) h3) (he _)
theorem TB_cmp {op : CmpOp} {a b : Expr} {p : Pos} {whole : Sem Value} {k : Bool → St → Prop} (hm : behindInMarks op b = false)
    (h : TE c fx (eval a fx.env) st fun x st1 => TE c fx (eval b fx.env) st1 fun y st2 => TO c fx (fun vs => compareOp op (vs.getD 0 .none) (vs.getD 1 .none)) [x, y] st2
      fun z st3 => TOB c fx (fun vs => truthy (vs.getD 0 .none)) [z] st3 k) : TB c fx (isTrue (.Compare a [op] [b] p) fx.env whole) st k :=
  fun ρ s Q E R q => wpAny_isTrue_Compare1 (h ρ s _ _ R fun x st1 ρ1 val1 s1 R1 N1 r1 h1 => h1 ρ1 s1 _ _ R1 fun y st2 ρ2 val2 s2 R2 N2 r2 h2 =>
    h2 ρ2 s2 _ E [val1, val2] R2 (.cons (r1.nxt N2) (.cons r2 rfl)) fun v st3 ρ3 val3 s3 R3 N3 r3 h3 =>
      h3 ρ3 s3 Q E [val3] R3 (.cons r3 rfl) fun b st4 ρ4 s4 R4 N4 h4 => q _ _ _ _ R4 (N1.trans (N2.trans (N3.trans N4))) h4) hm
theorem TB_not {a : Expr} {p : Pos} {whole : Sem Value} {k : Bool → St → Prop} (h : TB c fx (isTrue a fx.env (eval a fx.env)) st fun b st1 => k (!b) st1) : TB c fx (isTrue (.UnaryOp .Not a p) fx.env whole) st k :=
  fun ρ s Q E R q => wpAny_isTrue_Not (h ρ s _ _ R fun b st1 ρ1 s1 R1 N1 h1 => q _ _ _ _ R1 N1 h1)
theorem TB_bool {op : BoolOp} {es : List Expr} {p : Pos} {whole : Sem Value} {k : Bool → St → Prop} (h : TB c fx (allTrue op es fx.env) st k) : TB c fx (isTrue (.BoolOp op es p) fx.env whole) st k :=
  fun ρ s Q E R q => wpAny_isTrue_BoolOp (h ρ s Q E R q)
theorem TB_and_nil {k : Bool → St → Prop} (h : k true st) : TB c fx (allTrue .And [] fx.env) st k := fun _ _ _ _ R q => wpAny_allTrue_And_nil (q _ _ _ _ R .refl h)
theorem TB_or_nil {k : Bool → St → Prop} (h : k false st) : TB c fx (allTrue .Or [] fx.env) st k := fun _ _ _ _ R q => wpAny_allTrue_Or_nil (q _ _ _ _ R .refl h)
theorem TB_and_cons {e : Expr} {es : List Expr} {k : Bool → St → Prop}
    (h : TB c fx (isTrue e fx.env (eval e fx.env)) st fun b st1 => (b = true → TB c fx (allTrue .And es fx.env) st1 k) ∧ (b = false → k false st1)) : TB c fx (allTrue .And (e :: es) fx.env) st k :=
  fun ρ s Q E R q => wpAny_allTrue_And_cons (h ρ s _ _ R fun b st1 ρ1 s1 R1 N1 h1 => by
    cases b with
    | true => exact h1.1 rfl ρ1 s1 Q E R1 fun v st3 ρ3 s3 R3 N3 h3 => q _ _ _ _ R3 (N1.trans N3) h3
    | false => exact q _ _ _ _ R1 N1 (h1.2 rfl))
theorem TB_or_cons {e : Expr} {es : List Expr} {k : Bool → St → Prop}
    (h : TB c fx (isTrue e fx.env (eval e fx.env)) st fun b st1 => (b = true → k true st1) ∧ (b = false → TB c fx (allTrue .Or es fx.env) st1 k)) : TB c fx (allTrue .Or (e :: es) fx.env) st k :=
  fun ρ s Q E R q => wpAny_allTrue_Or_cons (h ρ s _ _ R fun b st1 ρ1 s1 R1 N1 h1 => by
    cases b with
    | true => exact q _ _ _ _ R1 N1 (h1.1 rfl)
    | false => exact h1.2 rfl ρ1 s1 Q E R1 fun v st3 ρ3 s3 R3 N3 h3 => q _ _ _ _ R3 (N1.trans N3) h3)
theorem TE_or2 {a b : Expr} {p : Pos} {k : V → St → Prop}
    (h : TE c fx (eval a fx.env) st fun x st1 => TOB c fx (fun vs => truthy (vs.getD 0 .none)) [x] st1 fun t st2 => (t = true → k x st2) ∧ (t = false → TE c fx (eval b fx.env) st2 k)) : TE c fx (eval (.BoolOp .Or [a, b] p) fx.env) st k :=
  fun ρ s Q E R q => wpAny_Or2 (h ρ s _ _ R fun x st1 ρ1 val1 s1 R1 N1 r1 h1 => h1 ρ1 s1 _ _ [val1] R1 (.cons r1 rfl) fun t st2 ρ2 s2 R2 N2 h2 => by
    cases t with
    | true => exact q _ _ _ _ _ R2 (N1.trans N2) (r1.nxt N2) (h2.1 rfl)
    | false => exact h2.2 rfl ρ2 s2 Q E R2 fun v st3 ρ3 val3 s3 R3 N3 r3 h3 => q _ _ _ _ _ R3 (N1.trans (N2.trans N3)) r3 h3)

theorem TE_and2 {a b : Expr} {p : Pos} {k : V → St → Prop}
    (h : TE c fx (eval a fx.env) st fun x st1 => TOB c fx (fun vs => truthy (vs.getD 0 .none)) [x] st1 fun t st2 => (t = false → k x st2) ∧ (t = true → TE c fx (eval b fx.env) st2 k)) : TE c fx (eval (.BoolOp .And [a, b] p) fx.env) st k :=
  fun ρ s Q E R q => wpAny_And2 (h ρ s _ _ R fun x st1 ρ1 val1 s1 R1 N1 r1 h1 => h1 ρ1 s1 _ _ [val1] R1 (.cons r1 rfl) fun t st2 ρ2 s2 R2 N2 h2 => by
    cases t with
    | false => exact q _ _ _ _ _ R2 (N1.trans N2) (r1.nxt N2) (h2.1 rfl)
    | true => exact h2.2 rfl ρ2 s2 Q E R2 fun v st3 ρ3 val3 s3 R3 N3 r3 h3 => q _ _ _ _ _ R3 (N1.trans (N2.trans N3)) r3 h3)

/-- arguments, items -/
theorem TEs_nil {p : Pos} {k : List V → St → Prop} (h : k [] st) : TEs c fx (spliced (backTo p (starEach [] fx.env))) st k := fun _ _ _ _ R q => wpAny_items_nil (q _ _ _ _ _ R .refl .nil h)
theorem TEs_cons {p : Pos} {e : Expr} {es : List Expr} {k : List V → St → Prop} (he : starEach (e :: es) fx.env = (false, eval e fx.env) :: starEach es fx.env)
    (h : TE c fx (eval e fx.env) st fun x st1 => TEs c fx (spliced (backTo p (starEach es fx.env))) st1 fun xs st2 => k (x :: xs) st2) : TEs c fx (spliced (backTo p (starEach (e :: es) fx.env))) st k :=
  fun ρ s Q E R q => wpAny_items_cons (h ρ s _ _ R fun x st1 ρ1 val1 s1 R1 N1 r1 h1 => h1 ρ1 s1 _ _ R1 fun y st2 ρ2 val2 s2 R2 N2 r2 h2 =>
    q _ _ _ _ _ R2 (N1.trans N2) (.cons (r1.nxt N2) r2) h2) he
end


section
variable {c : Cx} {r : Nat} {fx : Fx} {vs : Vis} {st : St}

theorem Rel.not_own {fx : Fx} {ρ : Rho} {σ : List MObj} {s : Shared} (R : Rel c (fx.own ++ fx.av) ρ σ s) {a : Addr} (ha : a ∈ fx.own) : a ∉ ρ.addrs := fun h => R.off a h (List.mem_append.mpr (.inl ha))

/-- one of the frame's own objects turns -/
theorem Rel.but {fx : Fx} {ρ : Rho} {σ : List MObj} {s s' : Shared} {a : Addr} (R : Rel c (fx.own ++ fx.av) ρ σ s) (ha : a ∈ fx.own) (hs : Heap.SameBut a s.heap s'.heap) (hal : ∃ o, s'.heap.get? a = some o)
    (os : s'.os = s.os) (gens : s'.gens = s.gens) (tk : s.toks ≤ s'.toks) : Rel c (fx.own ++ fx.av) ρ σ s' where
  base := fun b o e => (hs.2 b (fun q => by subst q; rw [R.fresh b (.inr (List.mem_append.mpr (.inl ha)))] at e; cases e)).trans (R.base b o e)
  os := os.trans R.os
  gens := gens.trans R.gens
  toks := fun h => Nat.lt_of_lt_of_le (R.toks h) tk
  len := R.len
  objs := fun i p m e f => (R.objs i p m e f).mono (fun _ _ e => e)
    (fun b o x => ⟨(hs.2 b (fun q => x.2 (by subst q; simp [ha]))).trans x.1, x.2⟩)
    (fun o z => (hs.2 _ (fun q => R.not_own ha (Rho.mem_addrs.mpr ⟨i, p, e, .inl q.symm⟩))).trans z)
    (fun o z => (hs.2 _ (fun q => R.not_own ha (Rho.mem_addrs.mpr ⟨i, p, e, .inr q.symm⟩))).trans z)
  apart := R.apart
  off := R.off
  fresh := R.fresh
  avs := fun b h => by
    by_cases e : b = a
    · subst e; exact hal
    · obtain ⟨o, z⟩ := R.avs b h; exact ⟨o, (hs.2 b e).trans z⟩

theorem Nxt.but {fx : Fx} {ρ : Rho} {s s' : Shared} {a : Addr} (ha : a ∈ fx.own) (hs : Heap.SameBut a s.heap s'.heap) (hal : ∃ o, s'.heap.get? a = some o) : Nxt fx.own ρ s ρ s' where
  keep := fun b o _ h2 e => (hs.2 b (fun q => h2 (q ▸ ha))).trans e
  alive := fun b e => by
    by_cases q : b = a
    · subst q; obtain ⟨o, z⟩ := hal; rw [z] at e; cases e
    · exact (hs.2 b q).symm.trans e
  pre := fun _ _ e => e
  new := fun _ h n => (n h).elim

theorem Ns.alive {h : Heap} {a : Addr} {m : Str → Option Value} (x : h.Ns a m) : ∃ o, h.get? a = some o := let ⟨o, _, _, e, _⟩ := x; ⟨o, e⟩

theorem store_slot (ok : FxOk c r fx vs) {ρ : Rho} {s : Shared} {Q : Unit → Shared → Prop} {E : Value → Shared → Prop} {i : Nat} {v : V} {val : Value} (R : RelF c fx ρ st s) (hi : i ∈ vs.stores) (hl : i < st.loc.length)
    (r : VRep c.C ρ (Still s.heap (fx.mv ρ)) v val)
    (q : ∀ s', RelF c fx ρ ⟨st.σ, st.loc.set i (some v)⟩ s' → Nxt fx.own ρ s ρ s' → Q () s') : wpAny (model c.prog c.w) fx.A (storeName fx.env (fx.nm i) val) Q E s := by
  obtain ⟨hsl, hnf⟩ := ok.store i hi
  obtain ⟨_, hcd, h⟩ := ok.slot i hsl
  -- the other slots
  have others : ∀ {S : Sto} {s' : Shared}, fx.sto i = some S → Heap.SameBut S.at_ s.heap s'.heap → S.at_ ∈ fx.own → Held s'.heap (fx.nm i) S val →
      (∀ j T, j ≠ i → fx.sto j = some T → T.at_ = S.at_ → ∀ v', Held s.heap (fx.nm j) T v' → Held s'.heap (fx.nm j) T v') →
      ∀ j w, (st.loc.set i (some v))[j]? = some (some w) → ∃ T val', fx.sto j = some T ∧ Held s'.heap (fx.nm j) T val' ∧ VRep c.C ρ (Still s'.heap (fx.mv ρ)) w val' := by
    intro S s' hS hs ho hH hoth j w hj
    have still : ∀ b o, Still s.heap (fx.mv ρ) b o → Still s'.heap (fx.mv ρ) b o := fun b o x => ⟨(hs.2 b (fun q => x.2 (by subst q; simp [Fx.mv, ho]))).trans x.1, x.2⟩
    by_cases e : j = i
    · subst e
      rw [List.getElem?_set_self hl] at hj
      cases hj
      exact ⟨S, val, hS, hH, r.mono (fun _ _ e => e) still⟩
    · rw [List.getElem?_set_ne (fun z => e z.symm)] at hj
      obtain ⟨T, val', hT, hHT, r'⟩ := R.slots j w hj
      refine ⟨T, val', hT, ?_, r'.mono (fun _ _ e => e) still⟩
      by_cases z : T.at_ = S.at_
      · exact hoth j T e hT z _ hHT
      · exact hHT.keeps fun o q => (hs.2 _ z).trans q
  rcases h with ⟨_, hk, hs⟩ | ⟨_, hk, a, ha, hs⟩
  · obtain ⟨m, hn⟩ := R.ns
    have hown := R.stos i _ hs
    refine wpAny_storeName_local hk hn (fun h' hn' hsb => ?_) (by rw [ok.kind]; rfl)
    refine q _ { rel := R.rel.but hown hsb (Ns.alive hn') rfl rfl (Nat.le_succ _), ns := ⟨_, hn'⟩, slots := ?_, stos := R.stos, lown := R.lown, alive := ?_, nss := ?_ } (Nxt.but hown hsb (Ns.alive hn'))
    · refine others hs hsb hown ⟨_, hn', by simp⟩ fun j T hji hT hTa v' hH => ?_
      obtain ⟨_, hTc, hne⟩ := ok.inj i j _ T (fun z => hji z.symm) hs hT hTa.symm
      obtain ⟨ta, tc⟩ := T
      dsimp only at hTa hTc
      subst hTa hTc
      obtain ⟨m2, hn2, e2⟩ := hH
      have : m2 = m := hn2.eq_nsMap.trans hn.eq_nsMap.symm
      subst this
      refine ⟨_, hn', ?_⟩
      rw [if_neg (fun z => hne z.symm)]; exact e2
    · intro j T hT hTc
      obtain ⟨o, v0, ho, hd⟩ := R.alive j T hT hTc
      refine ⟨o, v0, (hsb.2 _ (fun z => ?_)).trans ho, hd⟩
      by_cases e : j = i
      · subst e; rw [hs] at hT; cases hT; cases hTc
      · obtain ⟨_, x, _⟩ := ok.inj i j _ T (fun z => e z.symm) hs hT z.symm
        rw [x] at hTc; cases hTc
    · intro j T hT hTc
      by_cases z : T.at_ = fx.env.locals
      · rw [z]; exact ⟨_, hn'⟩
      · obtain ⟨m2, x⟩ := R.nss j T hT hTc; exact ⟨m2, x.sameBut hsb z⟩
  · have hown := R.stos i _ hs
    rcases hk with hk | hk
    · obtain ⟨o, v0, ho, hd⟩ := R.alive i _ hs rfl
      refine wpAny_storeName_cell ok.kind hk ha ⟨o, ho, hd⟩ fun h' hc' hsb => ?_
      obtain ⟨o', ho', hd'⟩ := hc'
      have nodata : ∀ m, ¬ s.heap.Ns a m := fun m hn => by
        obtain ⟨o2, es, ep, e2, d2, _⟩ := hn
        dsimp only at ho
        rw [ho] at e2; cases e2; rw [hd] at d2; cases d2
      refine q _ { rel := R.rel.but hown hsb ⟨o', ho'⟩ rfl rfl (Nat.le_refl _), ns := ?_, slots := ?_, stos := R.stos, lown := R.lown, alive := ?_, nss := ?_ } (Nxt.but hown hsb ⟨o', ho'⟩)
      · obtain ⟨m, hn⟩ := R.ns
        exact ⟨m, hn.sameBut hsb fun z => nodata m (z ▸ hn)⟩
      · refine others hs hsb hown ⟨o', ho', hd'⟩ fun j T hji hT hTa v' hH => ?_
        obtain ⟨x, _, _⟩ := ok.inj i j _ T (fun z => hji z.symm) hs hT hTa.symm
        cases x
      · intro j T hT hTc
        by_cases z : T.at_ = a
        · rw [z]; exact ⟨o', _, ho', hd'⟩
        · obtain ⟨o2, v2, e2, d2⟩ := R.alive j T hT hTc
          exact ⟨o2, v2, (hsb.2 _ z).trans e2, d2⟩
      · intro j T hT hTc
        obtain ⟨m2, x⟩ := R.nss j T hT hTc
        exact ⟨m2, x.sameBut hsb fun z => nodata m2 (by rw [← show T.at_ = a from z]; exact x)⟩
    · exact absurd hk hnf

theorem FRep.next {C : Addr} {ρ : Rho} {P : ObjAt} : FRep C ρ P .next .next := rfl
theorem FRep.brk {C : Addr} {ρ : Rho} {P : ObjAt} : FRep C ρ P .brk .brk := rfl
theorem FRep.cont {C : Addr} {ρ : Rho} {P : ObjAt} : FRep C ρ P .cont .cont := rfl
theorem FRep.ret {C : Addr} {ρ : Rho} {P : ObjAt} {v : V} {val : Value} (h : VRep C ρ P v val) : FRep C ρ P (.ret v) (.ret val) := ⟨val, rfl, h⟩

/-- storing into a slot, as an operation -/
noncomputable def TOst (c : Cx) (fx : Fx) (t : Value → Sem Unit) (x : V) (st : St) (k : St → Prop) : Prop :=
  ∀ ρ s Q E val, RelF c fx ρ st s → VRep c.C ρ (Still s.heap (fx.mv ρ)) x val →
    (∀ st' ρ' s', RelF c fx ρ' st' s' → Nxt fx.own ρ s ρ' s' → k st' → Q () s') → wpAny (model c.prog c.w) fx.A (t val) Q E s

theorem TOst_name (ok : FxOk c r fx vs) {i : Nat} {p : Pos} {x : V} {k : St → Prop} (hi : i ∈ vs.stores) (hl : i < st.loc.length) (h : k ⟨st.σ, st.loc.set i (some x)⟩) :
    TOst c fx (assign (.Name (fx.nm i) p) fx.env) x st k := fun ρ s Q E val R r q => by
  show wpAny _ _ (do standAt p; bindName fx.env (fx.nm i) val) Q E s
  exact wpAny_bind (wpAny_standAt (wpAny_bindName (store_slot ok R hi hl r fun s' R' N' => q _ _ _ R' N' h)))

/-- statements -/
theorem TS_assign (ok : FxOk c r fx vs) {i : Nat} {e : Expr} {p q : Pos} {k : FV → St → Prop} (hs : swapsWith e (some (.Name (fx.nm i) p)) q.line fx.env = pure false) (hi : i ∈ vs.stores)
    (h : TE c fx (eval e fx.env) st fun x st1 => i < st1.loc.length ∧ k .next ⟨st1.σ, st1.loc.set i (some x)⟩) : TS c fx (exec (.Assign [.Name (fx.nm i) p] e q) fx.env) st k :=
  fun ρ s Q E R z => wpAny_Assign_Name (h ρ s _ _ R fun x st1 ρ1 val1 s1 R1 N1 r1 h1 => store_slot ok R1 hi h1.1 r1 fun s2 R2 N2 => z _ _ _ _ _ R2 (N1.trans N2) .next h1.2) hs
theorem TS_aug (ok : FxOk c r fx vs) {i : Nat} {op : Operator} {e : Expr} {p q : Pos} {v : V} {k : FV → St → Prop} (hi : i ∈ vs.stores) (hl : st.loc[i]? = some (some v))
    (h : TE c fx (eval e fx.env) st fun x st1 => TO c fx (fun vs => inplaceOp op (vs.getD 0 .none) (vs.getD 1 .none)) [v, x] st1 fun y st2 => i < st2.loc.length ∧ k .next ⟨st2.σ, st2.loc.set i (some y)⟩) :
    TS c fx (exec (.AugAssign (.Name (fx.nm i) p) op e q) fx.env) st k :=
  fun ρ s Q E R z => wpAny_AugAssign_Name (load_slot ok R (ok.store i hi).1 hl fun val0 r0 => h ρ s _ _ R fun x st1 ρ1 val1 s1 R1 N1 r1 h1 =>
    h1 ρ1 s1 _ _ [val0, val1] R1 (.cons (r0.nxt N1) (.cons r1 rfl)) fun y st2 ρ2 val2 s2 R2 N2 r2 h2 => store_slot ok R2 hi h2.1 r2 fun s3 R3 N3 => z _ _ _ _ _ R3 (N1.trans (N2.trans N3)) .next h2.2)
theorem TS_ret {e : Expr} {p : Pos} {k : FV → St → Prop} (h : TE c fx (eval e fx.env) st fun x st1 => k (.ret x) st1) : TS c fx (exec (.Return (some e) p) fx.env) st k :=
  fun ρ s Q E R z => wpAny_Return_some (h ρ s _ _ R fun x st1 ρ1 val1 s1 R1 N1 r1 h1 => z _ _ _ _ _ R1 N1 (.ret r1) h1)
theorem TS_break {p : Pos} {k : FV → St → Prop} (h : k .brk st) : TS c fx (exec (.Break p) fx.env) st k :=
  fun ρ s Q E R z => wpAny_Break (z _ _ _ _ _ R .refl .brk h)
theorem TS_pass {p : Pos} {k : FV → St → Prop} (h : k .next st) : TS c fx (exec (.Pass p) fx.env) st k :=
  fun ρ s Q E R z => wpAny_Pass (z _ _ _ _ _ R .refl .next h)
theorem TS_if {t : Expr} {a b : List Stmt} {p : Pos} {k : FV → St → Prop}
    (h : TB c fx (isTrue t fx.env (eval t fx.env)) st fun z st1 => (z = true → TS c fx (execs a fx.env) st1 k) ∧ (z = false → TS c fx (execs b fx.env) st1 k)) : TS c fx (exec (.If t a b p) fx.env) st k :=
  fun ρ s Q E R q => wpAny_If (h ρ s _ _ R fun z st1 ρ1 s1 R1 N1 h1 => by
    cases z with
    | true => exact h1.1 rfl ρ1 s1 Q E R1 fun v st3 ρ3 val3 s3 R3 N3 r3 h3 => q _ _ _ _ _ R3 (N1.trans N3) r3 h3
    | false => exact h1.2 rfl ρ1 s1 Q E R1 fun v st3 ρ3 val3 s3 R3 N3 r3 h3 => q _ _ _ _ _ R3 (N1.trans N3) r3 h3)
theorem TS_nil {k : FV → St → Prop} (h : k .next st) : TS c fx (execs [] fx.env) st k := fun ρ s Q E R z => wpAny_execs_nil (z _ _ _ _ _ R .refl .next h)
theorem TS_cons {a : Stmt} {r : List Stmt} {k : FV → St → Prop}
    (h : TS c fx (exec a fx.env) st fun f st1 => match f with | .next => TS c fx (execs r fx.env) st1 k | f => k f st1) : TS c fx (execs (a :: r) fx.env) st k :=
  fun ρ s Q E R z => wpAny_execs_cons (h ρ s _ _ R fun f st1 ρ1 fl s1 R1 N1 r1 h1 => by
    cases f with
    | next => cases r1; exact h1 ρ1 s1 Q E R1 fun f2 st2 ρ2 fl2 s2 R2 N2 r2 h2 => z _ _ _ _ _ R2 (N1.trans N2) r2 h2
    | brk => cases r1; exact z _ _ _ _ _ R1 N1 .brk h1
    | cont => cases r1; exact z _ _ _ _ _ R1 N1 .cont h1
    | ret v => obtain ⟨val, rfl, r1⟩ := r1; exact z _ _ _ _ _ R1 N1 (.ret r1) h1)
end

set_option genInjectivity false

noncomputable abbrev KV := V → St → Prop
noncomputable abbrev KB := Bool → St → Prop
noncomputable abbrev KF := FV → St → Prop

/-- built-in functions by name -/
inductive Bi where
  | len | max2 | min2 | maxl | minl | abs | sum | range1 | range2 | range3 | list | sorted | sortedT | tuple | type
  deriving DecidableEq
/-- built-in methods -/
inductive Bm where
  | lower | count | join | index | append | search
  deriving DecidableEq
/-- how a global name is called -/
inductive CK where
  | fn | new | bi (b : Bi)
  deriving DecidableEq
inductive MK where
  | user (m : Nat) | bi (b : Bm)
  deriving DecidableEq

set_option genCtorIdx false
inductive MT where
  | nm (i : Nat) (p : Pos)
  | tup (is : List (Nat × Pos)) (k : Nat) (p : Pos)

mutual
inductive ME where
  | var (i : Nat) (p : Pos)
  | int (i : Int) (k : Nat) (p : Pos)
  | str (s : Str) (k : Nat) (p : Pos)
  | bool (b : Bool) (k : Nat) (p : Pos)
  | non (k : Nat) (p : Pos)
  | dbg (p : Pos)
  | glb (g : Nat) (p : Pos)
  | bin (op : Operator) (a b : ME) (p : Pos)
  | cmp (op : CmpOp) (a b : ME) (p : Pos)
  | un (op : UnaryOp) (a : ME) (p : Pos)
  | or2 (a b : ME) (p : Pos)
  | and2 (a b : ME) (p : Pos)
  | ife (t : MB) (a b : ME) (p : Pos)
  | lst (m : Bool) (es : MEs) (p : Pos)
  | tup (es : MEs) (k : Nat) (p : Pos)
  | sub (a i : ME) (p : Pos)
  | slc (a : ME) (lo hi st : MO) (p q : Pos)
  | att (a : ME) (ai : Nat) (p : Pos)
  | catt (k : Nat) (p q : Pos)
  | call (ck : CK) (g : Nat) (args : MEs) (p q : Pos)
  | meth (mk : MK) (o : ME) (args : MEs) (kw : Option (Bool × Nat × Pos × Pos)) (p q : Pos)
  | lzip (gl gz : Nat) (a b : ME) (p1 p2 p3 p4 : Pos)
  | repl (o : ME) (a ka : Nat) (pa : Pos) (b kb : Nat) (pb : Pos) (p q : Pos)
  | comp (e : ME) (cs : MC) (own : List Nat) (inner : Vis) (sc : Scope) (p : Pos)
inductive MEs where
  | nil
  | cons (e : ME) (es : MEs)
inductive MO where
  | none
  | some (e : ME)
inductive MC where
  | nil
  | cons (t : MT) (it : ME) (ifs : MBs) (r : MC)
/-- tests -/
inductive MB where
  | val (e : ME)
  | cmp (op : CmpOp) (a b : ME) (p : Pos)
  | not (t : MB) (p : Pos)
  | boo (op : BoolOp) (ts : MBs) (p : Pos)
inductive MBs where
  | nil
  | cons (t : MB) (ts : MBs)
end

mutual
inductive MS where
  | asg (i : Nat) (ip : Pos) (e : ME) (p : Pos)
  | asgC (sw : Bool) (i : Nat) (ip : Pos) (e : ME) (cs : MC) (own : List Nat) (inner : Vis) (sc : Scope) (cp : Pos) (p : Pos)
  | asgs (is : List (Nat × Pos)) (e : ME) (p : Pos)
  | unp (is : List (Nat × Pos)) (k : Nat) (tp : Pos) (e : ME) (p : Pos)
  | swap (is : List (Nat × Pos)) (k : Nat) (tp : Pos) (es : MEs) (ek : Nat) (ep : Pos) (p : Pos)
  | aug (i : Nat) (ip : Pos) (op : Operator) (e : ME) (p : Pos)
  | satt (o : ME) (ai : Nat) (op : Pos) (e : ME) (p : Pos)
  | ssub (a i : ME) (sp : Pos) (e : ME) (p : Pos)
  | exp (e : ME) (p : Pos)
  | iff (t : MB) (a b : MSs) (p : Pos)
  | whl (t : MB) (b : MSs) (p : Pos)
  | for_ (t : MT) (it : ME) (b : MSs) (p : Pos)
  | forE (t : MT) (i : Nat) (ip p q : Pos) (b : MSs) (fp : Pos)
  | ret (e : ME) (p : Pos)
  | brk (p : Pos)
  | pas (p : Pos)
  | raw (s : Stmt)
inductive MSs where
  | nil
  | cons (s : MS) (r : MSs)
end

/-- the names: of slots, of globals -/
structure Nm where
  sl : Nat → Str
  c : Cx
noncomputable def Nm.gl (N : Nm) (i : Nat) : Str := match N.c.g i with
  | some (x, _) => x
  | none => "?"
noncomputable def Nm.ms (N : Nm) (i : Nat) : Str := match N.c.ms i with
  | some (_, x, _) => x
  | none => "?"
noncomputable def Nm.ca (N : Nm) (i : Nat) : Str := match N.c.ca i with
  | some (_, x, _) => x
  | none => "?"
noncomputable def Nm.cg (N : Nm) (i : Nat) : Str := match N.c.ca i with
  | some (g, _, _) => N.gl g
  | none => "?"
noncomputable def Bm.name : Bm → Str
  | .lower => "lower"
  | .count => "count"
  | .join => "join"
  | .index => "index"
  | .append => "append"
  | .search => "search"
noncomputable def Nm.meth (N : Nm) : MK → Str
  | .user m => N.ms m
  | .bi b => b.name

noncomputable def toT (N : Nm) : MT → Expr
  | .nm i p => .Name (N.sl i) p
  | .tup is k p => .Tuple (is.map fun x => .Name (N.sl x.1) x.2) k p

mutual
noncomputable def toE (N : Nm) : ME → Expr
  | .var i p => .Name (N.sl i) p
  | .int i k p => .Constant (.int i) k p
  | .str s k p => .Constant (.str s) k p
  | .bool b k p => .Constant (.bool b) k p
  | .non k p => .Constant .none k p
  | .dbg p => .Name "__debug__" p
  | .glb g p => .Name (N.gl g) p
  | .bin op a b p => .BinOp (toE N a) op (toE N b) p
  | .cmp op a b p => .Compare (toE N a) [op] [toE N b] p
  | .un op a p => .UnaryOp op (toE N a) p
  | .or2 a b p => .BoolOp .Or [toE N a, toE N b] p
  | .and2 a b p => .BoolOp .And [toE N a, toE N b] p
  | .ife t a b p => .IfExp (toB N t) (toE N a) (toE N b) p
  | .lst _ es p => .List (toEs N es) p
  | .tup es k p => .Tuple (toEs N es) k p
  | .sub a i p => .Subscript (toE N a) (toE N i) p
  | .slc a lo hi st p q => .Subscript (toE N a) (.Slice (toO N lo) (toO N hi) (toO N st) q) p
  | .att a ai p => .Attribute (toE N a) (N.c.an ai) p
  | .catt k p q => .Attribute (.Name (N.cg k) p) (N.ca k) q
  | .call _ g args p q => .Call (.Name (N.gl g) p) (toEs N args) [] q
  | .meth mk o args kw p q => .Call (.Attribute (toE N o) (N.meth mk) p) (toEs N args) (match kw with | none => [] | some (b, k, cp, kp) => [⟨some N.c.kwn, .Constant (.bool b) k cp, kp⟩]) q
  | .lzip gl gz a b p1 p2 p3 p4 => .Call (.Name (N.gl gl) p1) [.Call (.Name (N.gl gz) p2) [toE N a, toE N b] [] p3] [] p4
  | .repl o a ka pa b kb pb p q => .Call (.Attribute (toE N o) "replace" p) [.Constant (.str ⟨#[a]⟩) ka pa, .Constant (.str ⟨#[b]⟩) kb pb] [] q
  | .comp e cs _ _ sc p => .ListComp (toE N e) (toC N cs) sc p
noncomputable def toEs (N : Nm) : MEs → List Expr
  | .nil => []
  | .cons e es => toE N e :: toEs N es
noncomputable def toO (N : Nm) : MO → Option Expr
  | .none => none
  | .some e => some (toE N e)
noncomputable def toC (N : Nm) : MC → List Comprehension
  | .nil => []
  | .cons t it ifs r => ⟨toT N t, toE N it, toBs N ifs, 0⟩ :: toC N r
noncomputable def toB (N : Nm) : MB → Expr
  | .val e => toE N e
  | .cmp op a b p => .Compare (toE N a) [op] [toE N b] p
  | .not t p => .UnaryOp .Not (toB N t) p
  | .boo op ts p => .BoolOp op (toBs N ts) p
noncomputable def toBs (N : Nm) : MBs → List Expr
  | .nil => []
  | .cons t ts => toB N t :: toBs N ts
end

mutual
noncomputable def toS (N : Nm) : MS → Stmt
  | .asg i ip e p => .Assign [.Name (N.sl i) ip] (toE N e) p
  | .asgC _ i ip e cs _ _ sc cp p => .Assign [.Name (N.sl i) ip] (.ListComp (toE N e) (toC N cs) sc cp) p
  | .asgs is e p => .Assign (is.map fun x => .Name (N.sl x.1) x.2) (toE N e) p
  | .unp is k tp e p => .Assign [.Tuple (is.map fun x => .Name (N.sl x.1) x.2) k tp] (toE N e) p
  | .swap is k tp es ek ep p => .Assign [.Tuple (is.map fun x => .Name (N.sl x.1) x.2) k tp] (.Tuple (toEs N es) ek ep) p
  | .aug i ip op e p => .AugAssign (.Name (N.sl i) ip) op (toE N e) p
  | .satt o ai op e p => .Assign [.Attribute (toE N o) (N.c.an ai) op] (toE N e) p
  | .ssub a i sp e p => .Assign [.Subscript (toE N a) (toE N i) sp] (toE N e) p
  | .exp e p => .Expr (toE N e) p
  | .iff t a b p => .If (toB N t) (toSs N a) (toSs N b) p
  | .whl t b p => .While (toB N t) (toSs N b) [] p
  | .for_ t it b p => .For (toT N t) (toE N it) (toSs N b) [] p
  | .forE t i ip p q b fp => .For (toT N t) (.Call (.Attribute (.Name (N.sl i) ip) "items" p) [] [] q) (toSs N b) [] fp
  | .ret e p => .Return (some (toE N e)) p
  | .brk p => .Break p
  | .pas p => .Pass p
  | .raw s => s
noncomputable def toSs (N : Nm) : MSs → List Stmt
  | .nil => []
  | .cons s r => toS N s :: toSs N r
end

/-! what the operations mean -/

noncomputable def V.toD : V → Option D
  | .d x => some x
  | _ => none
noncomputable def toDs : List V → Option (List D)
  | [] => some []
  | x :: xs => match x.toD, toDs xs with
    | some d, some ds => some (d :: ds)
    | _, _ => none
noncomputable def listOf (st : St) : V → Option (List D)
  | .d (.list ds) => some ds
  | .lst i => match st.σ[i]? with
    | some (.lst ds) => some ds
    | _ => none
  | _ => none
/-- a new tracked list -/
noncomputable def newL (st : St) (ds : List D) (k : KV) : Prop := k (.lst st.σ.length) ⟨st.σ ++ [.lst ds], st.loc⟩

noncomputable def bitsOk (i : Int) : Prop := i.natAbs.log2 < bitsLine

/-! shapes of what is handed in -/
noncomputable def int1 (x : V) (k : Int → Prop) : Prop := match x with
  | .d (.int a) => k a
  | _ => False
noncomputable def str1 (x : V) (k : Str → Prop) : Prop := match x with
  | .d (.str a) => k a
  | _ => False
noncomputable def lst1 (x : V) (k : List D → Prop) : Prop := match x with
  | .d (.list a) => k a
  | _ => False
noncomputable def trk1 (x : V) (st : St) (k : List D → Prop) : Prop := match x with
  | .lst i => match st.σ[i]? with
    | some (.lst ds) => k ds
    | _ => False
  | _ => False
noncomputable def dat1 (x : V) (k : D → Prop) : Prop := match x with
  | .d a => k a
  | _ => False
noncomputable def one1 (xs : List V) (k : V → Prop) : Prop := match xs with
  | [x] => k x
  | _ => False
noncomputable def two1 (xs : List V) (k : V → V → Prop) : Prop := match xs with
  | [x, y] => k x y
  | _ => False
noncomputable def three1 (xs : List V) (k : V → V → V → Prop) : Prop := match xs with
  | [x, y, z] => k x y z
  | _ => False
noncomputable def none0 (xs : List V) (k : Prop) : Prop := match xs with
  | [] => k
  | _ => False

theorem int1_inv {x : V} {k : Int → Prop} (h : int1 x k) : ∃ a, x = .d (.int a) ∧ k a := by
  cases x with
  | d x => cases x with
    | int a => exact ⟨a, rfl, h⟩
    | _ => exact h.elim
  | _ => exact h.elim
theorem str1_inv {x : V} {k : Str → Prop} (h : str1 x k) : ∃ a, x = .d (.str a) ∧ k a := by
  cases x with
  | d x => cases x with
    | str a => exact ⟨a, rfl, h⟩
    | _ => exact h.elim
  | _ => exact h.elim
theorem lst1_inv {x : V} {k : List D → Prop} (h : lst1 x k) : ∃ a, x = .d (.list a) ∧ k a := by
  cases x with
  | d x => cases x with
    | list a => exact ⟨a, rfl, h⟩
    | _ => exact h.elim
  | _ => exact h.elim
theorem trk1_inv {x : V} {st : St} {k : List D → Prop} (h : trk1 x st k) : ∃ i ds, x = .lst i ∧ st.σ[i]? = some (.lst ds) ∧ k ds := by
  cases x with
  | lst i =>
    show ∃ i' ds, V.lst i = .lst i' ∧ st.σ[i']? = some (.lst ds) ∧ k ds
    cases e : st.σ[i]? with
    | none => dsimp only [trk1] at h; rw [e] at h; exact h.elim
    | some m => cases m with
      | lst ds => dsimp only [trk1] at h; rw [e] at h; exact ⟨i, ds, rfl, e, h⟩
      | inst _ _ _ => dsimp only [trk1] at h; rw [e] at h; exact h.elim
  | _ => exact h.elim
theorem dat1_inv {x : V} {k : D → Prop} (h : dat1 x k) : ∃ a, x = .d a ∧ k a := by
  cases x with
  | d x => exact ⟨x, rfl, h⟩
  | _ => exact h.elim
theorem one1_inv {xs : List V} {k : V → Prop} (h : one1 xs k) : ∃ x, xs = [x] ∧ k x := by
  cases xs with
  | nil => exact h.elim
  | cons x xs => cases xs with
    | nil => exact ⟨x, rfl, h⟩
    | cons _ _ => exact h.elim
theorem two1_inv {xs : List V} {k : V → V → Prop} (h : two1 xs k) : ∃ x y, xs = [x, y] ∧ k x y := by
  cases xs with
  | nil => exact h.elim
  | cons x xs => cases xs with
    | nil => exact h.elim
    | cons y xs => cases xs with
      | nil => exact ⟨x, y, rfl, h⟩
      | cons _ _ => exact h.elim
theorem three1_inv {xs : List V} {k : V → V → V → Prop} (h : three1 xs k) : ∃ x y z, xs = [x, y, z] ∧ k x y z := by
  cases xs with
  | nil => exact h.elim
  | cons x xs => cases xs with
    | nil => exact h.elim
    | cons y xs => cases xs with
      | nil => exact h.elim
      | cons z xs => cases xs with
        | nil => exact ⟨x, y, z, rfl, h⟩
        | cons _ _ => exact h.elim
theorem none0_inv {xs : List V} {k : Prop} (h : none0 xs k) : xs = [] ∧ k := by
  cases xs with
  | nil => exact ⟨rfl, h⟩
  | cons _ _ => exact h.elim

theorem int1_up {x : V} {k k' : Int → Prop} (hk : ∀ a, k a → k' a) (h : int1 x k) : int1 x k' := by
  obtain ⟨a, rfl, h⟩ := int1_inv h; exact hk _ h
theorem str1_up {x : V} {k k' : Str → Prop} (hk : ∀ a, k a → k' a) (h : str1 x k) : str1 x k' := by
  obtain ⟨a, rfl, h⟩ := str1_inv h; exact hk _ h
theorem lst1_up {x : V} {k k' : List D → Prop} (hk : ∀ a, k a → k' a) (h : lst1 x k) : lst1 x k' := by
  obtain ⟨a, rfl, h⟩ := lst1_inv h; exact hk _ h
theorem trk1_up {x : V} {st : St} {k k' : List D → Prop} (hk : ∀ a, k a → k' a) (h : trk1 x st k) : trk1 x st k' := by
  obtain ⟨i, ds, rfl, e, h⟩ := trk1_inv h
  dsimp only [trk1]; rw [e]; exact hk _ h
theorem dat1_up {x : V} {k k' : D → Prop} (hk : ∀ a, k a → k' a) (h : dat1 x k) : dat1 x k' := by
  obtain ⟨a, rfl, h⟩ := dat1_inv h; exact hk _ h
theorem one1_up {xs : List V} {k k' : V → Prop} (hk : ∀ a, k a → k' a) (h : one1 xs k) : one1 xs k' := by
  obtain ⟨a, rfl, h⟩ := one1_inv h; exact hk _ h
theorem two1_up {xs : List V} {k k' : V → V → Prop} (hk : ∀ a b, k a b → k' a b) (h : two1 xs k) : two1 xs k' := by
  obtain ⟨a, b, rfl, h⟩ := two1_inv h; exact hk _ _ h
theorem three1_up {xs : List V} {k k' : V → V → V → Prop} (hk : ∀ a b c, k a b c → k' a b c) (h : three1 xs k) : three1 xs k' := by
  obtain ⟨a, b, c, rfl, h⟩ := three1_inv h; exact hk _ _ _ h
theorem none0_up {xs : List V} {k k' : Prop} (hk : k → k') (h : none0 xs k) : none0 xs k' := by
  obtain ⟨rfl, h⟩ := none0_inv h; exact hk h

noncomputable def catS (u v : V) (st : St) (k : KV) : Prop := match listOf st u, listOf st v with
  | some ds, some es => ds.length + es.length ≤ sizeLine ∧ newL st (ds ++ es) k
  | _, _ => False
noncomputable def addS (x y : V) (st : St) (k : KV) : Prop := match x with
  | .d (.int a) => int1 y fun b => k (.d (.int (a + b))) st
  | .d (.str a) => str1 y fun b => a.length + b.length ≤ sizeLine ∧ k (.d (.str (a ++ b))) st
  | .d (.list a) => catS (.d (.list a)) y st k
  | .lst i => catS (.lst i) y st k
  | _ => False
noncomputable def mulS (x : V) (b : Int) (st : St) (k : KV) : Prop := match x with
  | .d (.int a) => IntMulOk a b ∧ k (.d (.int (a * b))) st
  | .d (.str a) => b.toNat * a.length ≤ 1000 ∧ (-1000 ≤ b ∧ b ≤ 1000) ∧ k (.d (.str ⟨(List.replicate b.toNat a.cps.toList).flatten.toArray⟩)) st
  | .d (.list ds) => b.toNat * ds.length ≤ 1000 ∧ (-1000 ≤ b ∧ b ≤ 1000) ∧ newL st (List.replicate b.toNat ds).flatten k
  | _ => False
noncomputable def binS (op : Operator) (x y : V) (st : St) (k : KV) : Prop :=
  match op with
  | .Add => addS x y st k
  | .Sub => int1 x fun a => int1 y fun b => k (.d (.int (a - b))) st
  | .Mult => int1 y fun b => mulS x b st k
  | .FloorDiv => int1 x fun a => int1 y fun b => b ≠ 0 ∧ Builtin.divisionGoesByPylong a b = false ∧ k (.d (.int (a.fdiv b))) st
  | .Mod => int1 x fun a => int1 y fun b => b ≠ 0 ∧ k (.d (.int (a.fmod b))) st
  | _ => False

noncomputable def augS (op : Operator) (x y : V) (st : St) (k : KV) : Prop :=
  match op with
  | .Add => int1 x fun a => int1 y fun b => k (.d (.int (a + b))) st
  | .Sub => int1 x fun a => int1 y fun b => k (.d (.int (a - b))) st
  | _ => False

noncomputable def unS (op : UnaryOp) (x : V) (st : St) (k : KV) : Prop :=
  match op, x with
  | .USub, .d (.int a) => k (.d (.int (-a))) st
  | _, _ => False

noncomputable def truthS (x : V) (st : St) (k : KB) : Prop :=
  match x with
  | .d (.bool b) => k b st
  | .d (.int i) => k (i != 0) st
  | .d (.str s) => s.length < 2 ^ 62 ∧ k (!s.cps.isEmpty) st
  | .d .none => k false st
  | _ => False

mutual
noncomputable def toPy : D → PyData
  | .none => .none
  | .bool b => .bool b
  | .int i => .int i
  | .str s => .str s
  | .list ds => .list (toPys ds)
  | .tup ds => .tuple (toPys ds)
  | .rng _ _ _ => .none
  | .ws _ => .none
  | .emp => .none
noncomputable def toPys : List D → List PyData
  | [] => []
  | d :: ds => toPy d :: toPys ds
end
mutual
/-- data that == compares by what is in it -/
noncomputable def D.isData : D → Bool
  | .none => true
  | .bool _ => true
  | .int _ => true
  | .str _ => true
  | .list ds => D.areData ds
  | .tup ds => D.areData ds
  | _ => false
noncomputable def D.areData : List D → Bool
  | [] => true
  | d :: ds => D.isData d && D.areData ds
end
noncomputable def V.frozen (st : St) : V → Option D
  | .d x => some x
  | .lst i => match st.σ[i]? with
    | some (.lst ds) => some (.list ds)
    | _ => none
  | _ => none

noncomputable def bool1 (x : V) (k : Bool → Prop) : Prop := match x with
  | .d (.bool a) => k a
  | _ => False
theorem bool1_inv {x : V} {k : Bool → Prop} (h : bool1 x k) : ∃ a, x = .d (.bool a) ∧ k a := by
  cases x with
  | d x => cases x with
    | bool a => exact ⟨a, rfl, h⟩
    | _ => exact h.elim
  | _ => exact h.elim
theorem bool1_up {x : V} {k k' : Bool → Prop} (hk : ∀ a, k a → k' a) (h : bool1 x k) : bool1 x k' := by
  obtain ⟨a, rfl, h⟩ := bool1_inv h; exact hk _ h
noncomputable def eqF (x y : V) (st : St) (k : KB) : Prop := match x.frozen st, y.frozen st with
  | some a, some b => a.isData = true ∧ b.isData = true ∧ SeqAt.shaped (toPy a) = true ∧ SeqAt.shaped (toPy b) = true ∧ k (PyData.eqv (toPy a) (toPy b)) st
  | _, _ => False
noncomputable def eqS (x y : V) (st : St) (k : KB) : Prop :=
  match x with
  | .d (.int a) => int1 y fun b => k (a == b) st
  | .d (.bool a) => bool1 y fun b => k (a == b) st
  | .d (.str a) => str1 y fun b => k (a == b) st
  | .d (.list a) => eqF (.d (.list a)) y st k
  | .d (.tup a) => eqF (.d (.tup a)) y st k
  | .lst i => eqF (.lst i) y st k
  | _ => False

noncomputable def isS (f : Bool → Bool) (x y : V) (st : St) (k : KV) : Prop := match y with
  | .ty b => match x with
    | .ty a => k (.d (.bool (f (a == b)))) st
    | _ => False
  | .d .none => match x with
    | .d .none => k (.d (.bool (f true))) st
    | .d (.str _) => k (.d (.bool (f false))) st
    | .lst _ => k (.d (.bool (f false))) st
    | _ => False
  | _ => False
noncomputable def cmpS (op : CmpOp) (x y : V) (st : St) (k : KV) : Prop :=
  match op with
  | .Lt => int1 x fun a => int1 y fun b => k (.d (.bool (decide (a < b)))) st
  | .LtE => int1 x fun a => int1 y fun b => k (.d (.bool (decide (a ≤ b)))) st
  | .Gt => int1 x fun a => int1 y fun b => k (.d (.bool (decide (a > b)))) st
  | .GtE => int1 x fun a => int1 y fun b => k (.d (.bool (decide (a ≥ b)))) st
  | .Eq => eqS x y st fun b st => k (.d (.bool b)) st
  | .NotEq => eqS x y st fun b st => k (.d (.bool (!b))) st
  | .Is => isS id x y st k
  | .IsNot => isS not x y st k
  | _ => False

/-- an index as Python reads it -/
noncomputable def atIdx {α : Type} (l : List α) (i : Int) : Option α := if 0 ≤ i then l[i.toNat]? else if 0 ≤ i + l.length then l[(i + l.length).toNat]? else none

noncomputable def subS (x y : V) (st : St) (k : KV) : Prop :=
  int1 y fun i => match x with
  | .d (.list ds) => ∃ d, atIdx ds i = some d ∧ ds.length < 2 ^ 62 ∧ k (.d d) st
  | .d (.tup ds) => ∃ d, atIdx ds i = some d ∧ ds.length < 2 ^ 62 ∧ k (.d d) st
  | .d (.str s) => ∃ ch, atIdx s.cps.toList i = some ch ∧ s.length < 2 ^ 62 ∧ k (.d (.str ⟨#[ch]⟩)) st
  | .lst j => match st.σ[j]? with
    | some (.lst ds) => ∃ d, atIdx ds i = some d ∧ ds.length < 2 ^ 62 ∧ k (.d d) st
    | _ => False
  | _ => False

/-- what a slice picks -/
noncomputable def cutOf {α : Type} (l : List α) (lo hi : Option Int) : List α :=
  (l.drop (lo.elim 0 (clipAt l.length))).take (hi.elim l.length (clipAt l.length) - lo.elim 0 (clipAt l.length))
noncomputable def pickL {α : Type} (l : List α) (lo hi st : Option Int) : List α :=
  (sliceRange (sliceBounds lo hi st l.length).1 (sliceBounds lo hi st l.length).2.1 (sliceBounds lo hi st l.length).2.2).filterMap fun j => l[j]?
noncomputable def partOf : V → Option (Option Int)
  | .d .none => some none
  | .d (.int i) => some (some i)
  | _ => none
noncomputable def part1 (x : V) (k : Option Int → Prop) : Prop := match partOf x with
  | some p => k p
  | none => False
theorem part1_inv {x : V} {k : Option Int → Prop} (h : part1 x k) : ∃ p, partOf x = some p ∧ k p := by
  unfold part1 at h
  cases e : partOf x with
  | none => rw [e] at h; exact h.elim
  | some p => rw [e] at h; exact ⟨p, rfl, h⟩
theorem part1_up {x : V} {k k' : Option Int → Prop} (hk : ∀ p, k p → k' p) (h : part1 x k) : part1 x k' := by
  obtain ⟨p, e, h⟩ := part1_inv h
  unfold part1; rw [e]; exact hk p h
noncomputable def slcD (x : V) (l h z : Option Int) (st : St) (k : KV) : Prop := match x with
  | .d (.list ds) => match z with
    | none => ds.length < 2 ^ 23 ∧ k (.d (.list (cutOf ds l h))) st
    | some z => ds.length < 2 ^ 23 ∧ z ≠ 0 ∧ k (.d (.list (pickL ds l h (some z)))) st
  | .d (.str t) => match z with
    | none => t.length < 2 ^ 23 ∧ k (.d (.str ⟨(cutOf t.cps.toList l h).toArray⟩)) st
    | some _ => False
  | _ => False
noncomputable def slcS (x lo hi s : V) (st : St) (k : KV) : Prop :=
  part1 lo fun l => part1 hi fun h => part1 s fun z => slcD x l h z st k

noncomputable def attS (x : V) (ai : Nat) (st : St) (k : KV) : Prop :=
  match x with
  | .d (.ws ds) => ∃ d, ds[ai]? = some d ∧ k (.d d) st
  | .inst i => match st.σ[i]? with
    | some (.inst _ ns vs) => (∀ i ∈ ns, i < 6) ∧ ai < 6 ∧ ∃ v, (ns.zip vs).lookup ai = some v ∧ k v st
    | _ => False
  | _ => False

noncomputable def intsD : List D → Option (List Int)
  | [] => some []
  | .int i :: r => match intsD r with
    | some l => some (i :: l)
    | none => none
  | _ :: _ => none

noncomputable def maxL : Int → List Int → Int
  | m, [] => m
  | m, x :: r => maxL (if x > m then x else m) r
noncomputable def minL : Int → List Int → Int
  | m, [] => m
  | m, x :: r => minL (if x < m then x else m) r

noncomputable def rangeLen (a b s : Int) : Nat := if a < b then ((b - a - 1) / s + 1).toNat else 0
noncomputable def rangeL (a b s : Int) : List Int := (List.range (rangeLen a b s)).map fun (j : Nat) => a + s * (j : Int)
noncomputable def small (i : Int) : Prop := -(2 ^ 62) < i ∧ i < 2 ^ 62

noncomputable def lenS (x : V) (st : St) (k : Nat → Prop) : Prop := match x with
  | .d (.str s) => k s.length
  | .d (.list ds) => k ds.length
  | .d (.tup ds) => k ds.length
  | .lst i => match st.σ[i]? with
    | some (.lst ds) => k ds.length
    | _ => False
  | _ => False
noncomputable def seq1 (x : V) (k : List D → Prop) : Prop := match x with
  | .d (.list ds) => k ds
  | .d (.tup ds) => k ds
  | _ => False
noncomputable def rng1 (x : V) (k : Int → Int → Int → Prop) : Prop := match x with
  | .d (.rng a b s) => k a b s
  | _ => False
noncomputable def tyS (x : V) (st : St) (k : KV) : Prop := match x with
  | .d (.str _) => k (.ty "str") st
  | .lst i => match st.σ[i]? with
    | some (.lst _) => k (.ty "list") st
    | _ => False
  | _ => False
theorem seq1_inv {x : V} {k : List D → Prop} (h : seq1 x k) : (∃ a, x = .d (.list a) ∧ k a) ∨ ∃ a, x = .d (.tup a) ∧ k a := by
  cases x with
  | d x => cases x with
    | list a => exact .inl ⟨a, rfl, h⟩
    | tup a => exact .inr ⟨a, rfl, h⟩
    | _ => exact h.elim
  | _ => exact h.elim
theorem rng1_inv {x : V} {k : Int → Int → Int → Prop} (h : rng1 x k) : ∃ a b s, x = .d (.rng a b s) ∧ k a b s := by
  cases x with
  | d x => cases x with
    | rng a b s => exact ⟨a, b, s, rfl, h⟩
    | _ => exact h.elim
  | _ => exact h.elim
theorem tyS_inv {x : V} {st : St} {k : KV} (h : tyS x st k) : (∃ a, x = .d (.str a) ∧ k (.ty "str") st) ∨ ∃ i ds, x = .lst i ∧ st.σ[i]? = some (.lst ds) ∧ k (.ty "list") st := by
  cases x with
  | d x => cases x with
    | str a => exact .inl ⟨a, rfl, h⟩
    | _ => exact h.elim
  | lst i =>
    obtain ⟨_, ds, e, e1, h⟩ := trk1_inv (x := .lst i) (st := st) (k := fun _ => k (.ty "list") st) h
    cases e; exact .inr ⟨i, ds, rfl, e1, h⟩
  | _ => exact h.elim
theorem lenS_inv {x : V} {st : St} {k : Nat → Prop} (h : lenS x st k) : (∃ a, x = .d (.str a) ∧ k a.length) ∨ (∃ a, x = .d (.list a) ∧ k a.length) ∨ (∃ a, x = .d (.tup a) ∧ k a.length) ∨ ∃ i ds, x = .lst i ∧ st.σ[i]? = some (.lst ds) ∧ k ds.length := by
  cases x with
  | d x => cases x with
    | str a => exact .inl ⟨a, rfl, h⟩
    | list a => exact .inr (.inl ⟨a, rfl, h⟩)
    | tup a => exact .inr (.inr (.inl ⟨a, rfl, h⟩))
    | _ => exact h.elim
  | lst i =>
    obtain ⟨_, ds, e, e1, h⟩ := trk1_inv (x := .lst i) (st := st) (k := fun ds => k ds.length) h
    cases e; exact .inr (.inr (.inr ⟨i, ds, rfl, e1, h⟩))
  | _ => exact h.elim
theorem seq1_up {x : V} {k k' : List D → Prop} (hk : ∀ a, k a → k' a) (h : seq1 x k) : seq1 x k' := by
  rcases seq1_inv h with ⟨a, rfl, h⟩ | ⟨a, rfl, h⟩ <;> exact hk _ h
theorem rng1_up {x : V} {k k' : Int → Int → Int → Prop} (hk : ∀ a b s, k a b s → k' a b s) (h : rng1 x k) : rng1 x k' := by
  obtain ⟨a, b, s, rfl, h⟩ := rng1_inv h; exact hk _ _ _ h
theorem lenS_up {x : V} {st : St} {k k' : Nat → Prop} (hk : ∀ a, k a → k' a) (h : lenS x st k) : lenS x st k' := by
  rcases lenS_inv h with ⟨a, rfl, h⟩ | ⟨a, rfl, h⟩ | ⟨a, rfl, h⟩ | ⟨i, ds, rfl, e, h⟩
  · exact hk _ h
  · exact hk _ h
  · exact hk _ h
  · exact trk1_up (x := .lst i) (st := st) (k := fun ds => k ds.length) (k' := fun ds => k' ds.length) (fun ds => hk _) (by simp only [trk1, e]; exact h)

noncomputable abbrev T3 := Int × Int × Int
noncomputable def lt3 (x y : T3) : Bool := decide (x.1 < y.1) || (x.1 == y.1 && (decide (x.2.1 < y.2.1) || (x.2.1 == y.2.1 && decide (x.2.2 < y.2.2))))
noncomputable def le3 (x y : T3) : Prop := lt3 y x = false
noncomputable def tup3 (t : T3) : D := .tup [.int t.1, .int t.2.1, .int t.2.2]
noncomputable def perms4 : List (List Nat) := [[0, 1, 2, 3], [0, 1, 3, 2], [0, 2, 1, 3], [0, 2, 3, 1], [0, 3, 1, 2], [0, 3, 2, 1], [1, 0, 2, 3], [1, 0, 3, 2], [1, 2, 0, 3], [1, 2, 3, 0], [1, 3, 0, 2], [1, 3, 2, 0],
  [2, 0, 1, 3], [2, 0, 3, 1], [2, 1, 0, 3], [2, 1, 3, 0], [2, 3, 0, 1], [2, 3, 1, 0], [3, 0, 1, 2], [3, 0, 2, 1], [3, 1, 0, 2], [3, 1, 2, 0], [3, 2, 0, 1], [3, 2, 1, 0]]
noncomputable def of4 (t0 t1 t2 t3 : T3) (i : Nat) : T3 := [t0, t1, t2, t3].getD i (0, 0, 0)

noncomputable def biS (b : Bi) (xs : List V) (st : St) (k : KV) : Prop :=
  match b with
  | .len => one1 xs fun x => lenS x st fun n => n < 2 ^ 62 ∧ k (.d (.int n)) st
  | .max2 => two1 xs fun x y => int1 x fun a => int1 y fun b => k (.d (.int (if b > a then b else a))) st
  | .min2 => two1 xs fun x y => int1 x fun a => int1 y fun b => k (.d (.int (if b < a then b else a))) st
  | .maxl => False
  | .minl => False
  | .abs => False
  | .sum => one1 xs fun x => seq1 x fun ds => ∃ l, intsD ds = some l ∧ l.length < 2 ^ 20 ∧ k (.d (.int l.sum)) st
  | .range1 => one1 xs fun x => int1 x fun b => k (.d (.rng 0 b 1)) st
  | .range2 => two1 xs fun x y => int1 x fun a => int1 y fun b => k (.d (.rng a b 1)) st
  | .range3 => three1 xs fun x y z => int1 x fun a => int1 y fun b => int1 z fun s => 0 < s ∧ s < 1000000 ∧ k (.d (.rng a b s)) st
  | .list => one1 xs fun x => rng1 x fun a b s => small a ∧ small b ∧ 0 < s ∧ s < 1000000 ∧ rangeLen a b s ≤ 2 ^ 20 ∧ newL st ((rangeL a b s).map .int) k
  | .sorted => False
  | .sortedT => one1 xs fun x => lst1 x fun ds => ∃ t0 t1 t2 t3 : T3, ds = [tup3 t0, tup3 t1, tup3 t2, tup3 t3] ∧ ∀ p ∈ perms4, (p.map (of4 t0 t1 t2 t3)).Pairwise le3 → k (.d (.list (p.map fun i => tup3 (of4 t0 t1 t2 t3 i)))) st
  | .tuple => one1 xs fun x => trk1 x st fun ds => ds.length < 2 ^ 20 ∧ k (.d (.tup ds)) st
  | .type => one1 xs fun x => tyS x st k

noncomputable def strsD : List D → Option (List Str)
  | [] => some []
  | .str i :: r => match strsD r with
    | some l => some (i :: l)
    | none => none
  | _ :: _ => none
/-- a text made of tabs and signs that show -/
noncomputable def tame (s : Str) : Bool := s.cps.all fun ch => ch == 9 || (32 ≤ ch && ch < 127)

noncomputable def shown (s : Str) : Bool := s.cps.all fun ch => 32 ≤ ch && ch < 127

noncomputable def bmS (b : Bm) (o : V) (xs : List V) (st : St) (k : KV) : Prop :=
  match b with
  | .lower => str1 o fun s => none0 xs (tame s = true ∧ s.length ≤ 1000 ∧ k (.d (.str ⟨s.cps.map fun ch => if 65 ≤ ch ∧ ch ≤ 90 then ch + 32 else ch⟩)) st)
  | .count => False
  | .join => str1 o fun s => one1 xs fun x => ∃ ds l, listOf st x = some ds ∧ strsD ds = some l ∧ (l.map (·.length)).sum + l.length * s.length ≤ 100000 ∧ l.length ≤ 10000 ∧ k (.d (.str (Str.join s l))) st
  | .index => False
  | .append => one1 xs fun y => dat1 y fun x => match o with
    | .lst i => match st.σ[i]? with
      | some (.lst ds) => ds.length < 2 ^ 20 ∧ k (.d .none) ⟨st.σ.set i (.lst (ds ++ [x])), st.loc⟩
      | _ => False
    | _ => False
  | .search => match o with
    | .pat nm _ => one1 xs fun y => str1 y fun s => (if nm then shown s else tame s) = true ∧ s.length ≤ 100000 ∧ k (.d .none) st
    | _ => False


set_option genCtorIdx true

noncomputable def kwV (c : Cx) (kw : Option Bool) : List (Str × Value) := match kw with
  | none => []
  | some b => [(c.kwn, .bool b)]
/-- a call of one of the text's defs or classes, said of all states -/
noncomputable def TC (c : Cx) (r : Nat) (f : Addr) (xs : List V) (kw : Option Bool) (σ : List MObj) (k : V → List MObj → Prop) : Prop :=
  ∀ A av ρ s Q E vals, Room r A → Rel c av ρ σ s → VReps c.C ρ (Still s.heap (ρ.addrs ++ av)) xs vals →
    (∀ v σ' ρ' val s', Rel c av ρ' σ' s' → Nxt [] ρ s ρ' s' → VRep c.C ρ' (Still s'.heap (ρ'.addrs ++ av)) v val → k v σ' → Q val s') →
    wpAny (model c.prog c.w) A (call (.ref f) vals (kwV c kw)) Q E s

noncomputable def clsOf (c : Cx) (st : St) : V → Option Addr
  | .d (.ws _) => some c.C
  | .inst i => match st.σ[i]? with
    | some (.inst C _ _) => some C
    | _ => none
  | _ => none

noncomputable def bmAt (c : Cx) (b : Bm) (x : V) (st : St) : Prop := match b with
  | .append => match x with
    | .lst i => ∃ ds, st.σ[i]? = some (.lst ds)
    | _ => False
  | .index => lst1 x fun _ => True
  | .search => match x with
    | .pat nm a => ∃ i x, c.g i = some (x, .pat nm a)
    | _ => False
  | .lower => str1 x fun _ => True
  | .count => str1 x fun _ => True
  | .join => str1 x fun _ => True

/-- what a for walks over; a tracked list must stand still meanwhile -/
noncomputable def itemsOf (st : St) : V → Option (List V × Option (Nat × List D))
  | .d (.list ds) => some (ds.map .d, none)
  | .d (.tup ds) => some (ds.map .d, none)
  | .d (.rng a b s) => if 0 < s then some ((rangeL a b s).map fun i => .d (.int i), none) else none
  | .d (.str x) => some (x.cps.toList.map fun ch => .d (.str ⟨#[ch]⟩), none)
  | .lst i => match st.σ[i]? with
    | some (.lst ds) => some (ds.map .d, some (i, ds))
    | _ => none
  | _ => none
noncomputable def stillL (o : Option (Nat × List D)) (st : St) : Prop := match o with
  | none => True
  | some (i, ds) => st.σ[i]? = some (.lst ds)

noncomputable def setAll : List Nat → List V → St → (St → Prop) → Prop
  | [], [], st, k => k st
  | i :: is, x :: xs, st, k => i < st.loc.length ∧ setAll is xs ⟨st.σ, st.loc.set i (some x)⟩ k
  | _, _, _, _ => False
noncomputable def bindT : MT → V → St → (St → Prop) → Prop
  | .nm i _, x, st, k => i < st.loc.length ∧ k ⟨st.σ, st.loc.set i (some x)⟩
  | .tup is _ _, x, st, k => match x with
    | .d (.tup ds) => setAll (is.map (·.1)) (ds.map .d) st k
    | _ => False

noncomputable def forK (o : Option (Nat × List D)) (t : MT) (B : St → KF → Prop) : List V → St → KF → Prop
  | [], st, k => stillL o st ∧ k .next st
  | x :: xs, st, k => stillL o st ∧ bindT t x st fun st => B st fun f st => match f with
    | .next => forK o t B xs st k
    | .cont => forK o t B xs st k
    | .brk => k .next st
    | .ret v => k (.ret v) st
noncomputable def whK (T : St → KB → Prop) (B : St → KF → Prop) : Nat → St → KF → Prop
  | 0, _, _ => False
  | n + 1, st, k => T st fun b st => (b = true → B st fun f st => match f with
    | .next => whK T B n st k
    | .cont => whK T B n st k
    | .brk => k .next st
    | .ret v => k (.ret v) st) ∧ (b = false → k .next st)
/-- a comprehension's walk over one clause's items -/
noncomputable def loopG (o : Option (Nat × List D)) (body : V → St → List D → (St → List D → Prop) → Prop) : List V → St → List D → (St → List D → Prop) → Prop
  | [], st, acc, k => stillL o st ∧ k st acc
  | x :: xs, st, acc, k => stillL o st ∧ body x st acc fun st acc => loopG o body xs st acc k

noncomputable def zipD : List D → List D → List D
  | a :: as, b :: bs => .tup [a, b] :: zipD as bs
  | _, _ => []

mutual
noncomputable def wpE (c : Cx) (r : Nat) : ME → St → KV → Prop
  | .var i _, st, k => match st.loc[i]? with
    | some (some v) => k v st
    | _ => False
  | .int i _ _, st, k => k (.d (.int i)) st
  | .str s _ _, st, k => k (.d (.str s)) st
  | .bool b _ _, st, k => k (.d (.bool b)) st
  | .non _ _, st, k => k (.d .none) st
  | .dbg _, st, k => k (.d (.bool true)) st
  | .glb g _, st, k => match c.g g with
    | some (_, .stat a) => k (.stat a) st
    | some (_, .num n) => k (.d (.int n)) st
    | some (_, .bi .str) => k (.ty "str") st
    | some (_, .bi .list) => k (.ty "list") st
    | some (_, .pat nm a) => k (.pat nm a) st
    | _ => False
  | .bin op a b _, st, k => wpE c r a st fun x st => wpE c r b st fun y st => binS op x y st k
  | .cmp op a b _, st, k => wpE c r a st fun x st => wpE c r b st fun y st => cmpS op x y st k
  | .un op a _, st, k => wpE c r a st fun x st => unS op x st k
  | .or2 a b _, st, k => wpE c r a st fun x st => truthS x st fun t st => (t = true → k x st) ∧ (t = false → wpE c r b st k)
  | .and2 a b _, st, k => wpE c r a st fun x st => truthS x st fun t st => (t = false → k x st) ∧ (t = true → wpE c r b st k)
  | .ife t a b _, st, k => wpB c r t st fun z st => (z = true → wpE c r a st k) ∧ (z = false → wpE c r b st k)
  | .lst m es _, st, k => wpEs c r es st fun xs st => match toDs xs with
    | some ds => ds.length ≤ 1000 ∧ (match m with | true => newL st ds k | false => k (.d (.list ds)) st)
    | none => False
  | .tup es _ _, st, k => wpEs c r es st fun xs st => match toDs xs with
    | some ds => ds.length ≤ 1000 ∧ k (.d (.tup ds)) st
    | none => False
  | .sub a i _, st, k => wpE c r a st fun x st => wpE c r i st fun y st => subS x y st k
  | .slc a lo hi s _ _, st, k => wpE c r a st fun x st => wpO c r lo st fun l st => wpO c r hi st fun h st => wpO c r s st fun z st => slcS x l h z st k
  | .att a ai _, st, k => wpE c r a st fun x st => attS x ai st k
  | .catt i _ _, st, k => match c.ca i with
    | some (_, _, v) => k (.d (.str v)) st
    | none => False
  | .call ck g args _ _, st, k => wpEs c r args st fun xs st => match ck, c.g g with
    | .fn, some (_, .stat f) => TC c r f xs none st.σ fun v σ => k v ⟨σ, st.loc⟩
    | .new, some (_, .stat f) => TC c r f xs none st.σ fun v σ => k v ⟨σ, st.loc⟩
    | .bi b, some (_, .bi _) => biS b xs st k
    | _, _ => False
  | .meth mk o args kw _ _, st, k => wpE c r o st fun x st => match mk with
    | .user m => match c.ms m with
      | some (C, _, f) => clsOf c st x = some C ∧ wpEs c r args st fun xs st => TC c r f (x :: xs) (kw.map (·.1)) st.σ fun v σ => k v ⟨σ, st.loc⟩
      | none => False
    | .bi b => kw = none ∧ bmAt c b x st ∧ wpEs c r args st fun xs st => bmS b x xs st k
  | .lzip _ _ a b _ _ _ _, st, k => wpE c r a st fun x st => wpE c r b st fun y st => ∃ ds es, x = .d (.list ds) ∧ y = .d (.list es) ∧ ds.length ≤ 1000 ∧ es.length ≤ 1000 ∧ k (.d (.list (zipD ds es))) st
  | .repl o a _ _ b _ _ _ _, st, k => wpE c r o st fun x st => match x with
    | .d (.str s) => a ≠ b ∧ s.length ≤ 1000 ∧ k (.d (.str ⟨s.cps.map fun ch => if ch = a then b else ch⟩)) st
    | _ => False
  | .comp e cs _ _ _ _, st, k => wpG c r cs (wpE c r e) st [] fun st' acc => k (.d (.list acc)) ⟨st'.σ, st.loc⟩
noncomputable def wpEs (c : Cx) (r : Nat) : MEs → St → (List V → St → Prop) → Prop
  | .nil, st, k => k [] st
  | .cons e es, st, k => wpE c r e st fun x st => wpEs c r es st fun xs st => k (x :: xs) st
noncomputable def wpO (c : Cx) (r : Nat) : MO → St → KV → Prop
  | .none, st, k => k (.d .none) st
  | .some e, st, k => wpE c r e st k
noncomputable def wpB (c : Cx) (r : Nat) : MB → St → KB → Prop
  | .val e, st, k => wpE c r e st fun x st => truthS x st k
  | .cmp op a b _, st, k => wpE c r a st fun x st => wpE c r b st fun y st => cmpS op x y st fun z st => truthS z st k
  | .not t _, st, k => wpB c r t st fun b st => k (!b) st
  | .boo op ts _, st, k => wpBs c r op ts st k
noncomputable def wpBs (c : Cx) (r : Nat) (op : BoolOp) : MBs → St → KB → Prop
  | .nil, st, k => k (match op with | .And => true | .Or => false) st
  | .cons t ts, st, k => wpB c r t st fun b st => match op with
    | .And => (b = true → wpBs c r op ts st k) ∧ (b = false → k false st)
    | .Or => (b = true → k true st) ∧ (b = false → wpBs c r op ts st k)
noncomputable def wpG (c : Cx) (r : Nat) : MC → (St → KV → Prop) → St → List D → (St → List D → Prop) → Prop
  | .nil, elt, st, acc, k => elt st fun v st => match v.toD with
    | some d => acc.length < 2 ^ 20 ∧ k st (acc ++ [d])
    | none => False
  | .cons t it ifs rest, elt, st, acc, k => wpE c r it st fun x st => match itemsOf st x with
    | some (xs, o) => loopG o (fun x st acc k => bindT t x st fun st => wpBs c r .And ifs st fun b st => (b = true → wpG c r rest elt st acc k) ∧ (b = false → k st acc)) xs st acc k
    | none => False
end

noncomputable def satS (x : V) (n : Nat) (v : V) (st : St) (k : KF) : Prop :=
  match x with
  | .inst i => match st.σ[i]? with
    | some (.inst C ns vs) => n ∉ ns ∧ n < 6 ∧ ns.length < 50 ∧ k .next ⟨st.σ.set i (.inst C (ns ++ [n]) (vs ++ [v])), st.loc⟩
    | _ => False
  | _ => False
noncomputable def ssubS (x y : V) (v : V) (st : St) (k : KF) : Prop :=
  int1 y fun j => dat1 v fun d => match x with
  | .lst i => match st.σ[i]? with
    | some (.lst ds) => 0 ≤ j ∧ j < ds.length ∧ ds.length < 2 ^ 62 ∧ k .next ⟨st.σ.set i (.lst (ds.set j.toNat d)), st.loc⟩
    | _ => False
  | _ => False

mutual
noncomputable def wpS (c : Cx) (r : Nat) : MS → St → KF → Prop
  | .asg i _ e _, st, k => wpE c r e st fun x st => i < st.loc.length ∧ k .next ⟨st.σ, st.loc.set i (some x)⟩
  | .asgC _ i _ e cs _ _ _ _ _, st, k => wpG c r cs (wpE c r e) st [] fun st' acc => i < st.loc.length ∧ k .next ⟨st'.σ, st.loc.set i (some (.d (.list acc)))⟩
  | .asgs is e _, st, k => wpE c r e st fun x st => setAll (is.map (·.1)) (is.map fun _ => x) st (k .next)
  | .unp is _ _ e _, st, k => wpE c r e st fun x st => match x with
    | .d (.tup ds) => setAll (is.map (·.1)) (ds.map .d) st (k .next)
    | _ => False
  | .swap is _ _ es _ _ _, st, k => wpEs c r es st fun xs st => match toDs xs with
    | some ds => ds.length ≤ 1000 ∧ setAll (is.map (·.1)).reverse (ds.map .d).reverse st (k .next)
    | none => False
  | .aug i _ op e _, st, k => match st.loc[i]? with
    | some (some v) => wpE c r e st fun x st => augS op v x st fun y st => i < st.loc.length ∧ k .next ⟨st.σ, st.loc.set i (some y)⟩
    | _ => False
  | .satt o n _ e _, st, k => wpE c r e st fun v st => wpE c r o st fun x st => satS x n v st k
  | .ssub a i _ e _, st, k => wpE c r e st fun v st => wpE c r a st fun x st => wpE c r i st fun y st => ssubS x y v st k
  | .exp e _, st, k => wpE c r e st fun v st => v = .d .none ∧ k .next st
  | .iff t a b _, st, k => wpB c r t st fun z st => (z = true → wpSs c r a st k) ∧ (z = false → wpSs c r b st k)
  | .whl t b _, st, k => ∃ n, whK (wpB c r t) (wpSs c r b) n st k
  | .for_ t it b _, st, k => wpE c r it st fun x st => match itemsOf st x with
    | some (xs, o) => forK o t (wpSs c r b) xs st k
    | none => False
  | .forE _ i _ _ _ _ _, st, k => match st.loc[i]? with
    | some (some (.d .emp)) => k .next st
    | _ => False
  | .ret e _, st, k => wpE c r e st fun v st => k (.ret v) st
  | .brk _, st, k => k .brk st
  | .pas _, st, k => k .next st
  | .raw _, st, k => False
noncomputable def wpSs (c : Cx) (r : Nat) : MSs → St → KF → Prop
  | .nil, st, k => k .next st
  | .cons s rest, st, k => wpS c r s st fun f st => match f with
    | .next => wpSs c r rest st k
    | .brk => k .brk st
    | .cont => k .cont st
    | .ret v => k (.ret v) st
end



section
variable {c : Cx} {r : Nat} {fx : Fx} {vs : Vis} {st : St}

theorem VReps.one {C : Addr} {ρ : Rho} {P : ObjAt} {x : V} {vals : List Value} (h : VReps C ρ P [x] vals) : ∃ u, vals = [u] ∧ VRep C ρ P x u := by
  obtain ⟨u, r, rfl, a, b⟩ := h
  dsimp only [VReps] at b; subst b
  exact ⟨u, rfl, a⟩
theorem VReps.two {C : Addr} {ρ : Rho} {P : ObjAt} {x y : V} {vals : List Value} (h : VReps C ρ P [x, y] vals) : ∃ u v, vals = [u, v] ∧ VRep C ρ P x u ∧ VRep C ρ P y v := by
  obtain ⟨u, r, rfl, a, b⟩ := h
  obtain ⟨v, rfl, d⟩ := b.one
  exact ⟨u, v, rfl, a, d⟩
theorem VReps.three {C : Addr} {ρ : Rho} {P : ObjAt} {x y z : V} {vals : List Value} (h : VReps C ρ P [x, y, z] vals) : ∃ u v w, vals = [u, v, w] ∧ VRep C ρ P x u ∧ VRep C ρ P y v ∧ VRep C ρ P z w := by
  obtain ⟨u, r, rfl, a, b⟩ := h
  obtain ⟨v, w, rfl, d, e⟩ := b.two
  exact ⟨u, v, w, rfl, a, d, e⟩

theorem RelF.list {ρ : Rho} {s : Shared} (R : RelF c fx ρ st s) {i : Nat} {ds : List D} (h : st.σ[i]? = some (.lst ds)) :
    ∃ a vs n, ρ[i]? = some (a, a) ∧ s.heap.get? a = some (lstObj vs n) ∧ Reps c.C (Still s.heap (fx.mv ρ)) ds vs := by
  have hi : i < ρ.length := by rw [R.rel.len]; exact (List.getElem?_eq_some_iff.mp h).1
  have e := List.getElem?_eq_getElem hi
  obtain ⟨e1, vs, n, a, b⟩ := R.rel.objs i _ _ e h
  refine ⟨ρ[i].1, vs, n, ?_, a, b⟩
  rw [e]; rw [e1]; exact congrArg some (Prod.ext e1 rfl)

theorem lst_is {h : Heap} {a : Addr} {vs : List Value} {n : Nat} (e : h.get? a = some (lstObj vs n)) : h.IsList a vs.toArray := ⟨_, e, rfl, n, rfl⟩

/-- the frozen or tracked list that a value is -/
theorem listOf_at {ρ : Rho} {s : Shared} (R : RelF c fx ρ st s) {x : V} {ds : List D} {u : Value} (h : listOf st x = some ds) (hu : VRep c.C ρ (Still s.heap (fx.mv ρ)) x u) :
    ∃ a vs n, u = .ref a ∧ s.heap.get? a = some (lstObj vs n) ∧ Reps c.C (Still s.heap (fx.mv ρ)) ds vs := by
  cases x with
  | d x => cases x with
    | list es => cases h; obtain ⟨a, vs, n, rfl, p, q⟩ := hu; exact ⟨a, vs, n, rfl, p.1, q⟩
    | _ => exact nomatch h
  | lst i =>
    dsimp only [listOf] at h
    split at h
    · rename_i e
      cases h
      obtain ⟨a, vs, n, e1, e2, e3⟩ := R.list e
      obtain ⟨p, e4, rfl⟩ := hu
      rw [e1] at e4; cases e4
      exact ⟨a, vs, n, rfl, e2, e3⟩
    · cases h
  | _ => exact nomatch h

/-- a new tracked list, laid on the heap's end -/
theorem newL_snd {ρ : Rho} {s : Shared} {ds : List D} {vals : List Value} {t : Nat} {k : KV} {Q : Value → Shared → Prop} (R : RelF c fx ρ st s) (hr : Reps c.C (Still s.heap (fx.mv ρ)) ds vals) (h : newL st ds k)
    (q : ∀ v st' ρ' val s', RelF c fx ρ' st' s' → Nxt fx.own ρ s ρ' s' → VRep c.C ρ' (Still s'.heap (fx.mv ρ')) v val → k v st' → Q val s') (ht : s.toks ≤ t := by first | assumption | exact Nat.le_refl _ | omega) :
    Q (.ref s.heap.objs.size) { s with heap := s.heap.push (lstObj vals 0), toks := t } := by
  have hn : s.heap.get? s.heap.objs.size = none := by
    cases e : s.heap.get? s.heap.objs.size with
    | none => rfl
    | some o => exact absurd (Heap.lt_size e) (Nat.lt_irrefl _)
  have g : Grow s { s with heap := s.heap.push (lstObj vals 0), toks := t } := .heap fun _ _ e => Heap.get?_push_of_some _ e
  have N := g.nxt_track (own := fx.own) (ρ := ρ) (p := (s.heap.objs.size, s.heap.objs.size)) hn hn
  refine q _ _ (ρ ++ [(s.heap.objs.size, s.heap.objs.size)]) _ _ (R.track (m := .lst ds) g hn hn ⟨rfl, vals, 0, Heap.get?_push_size _ rfl, hr.mono fun a o x => N.still a o x⟩) N (show VRep _ _ _ (.lst st.σ.length) _ from ⟨(s.heap.objs.size, s.heap.objs.size), by rw [← R.rel.len]; simp, rfl⟩) h

theorem frozen_push {ρ : Rho} {s : Shared} {o : Obj} {t : Nat} (R : RelF c fx ρ st s) (hf : o.isFreed = false) (ht : s.toks ≤ t := by first | assumption | exact Nat.le_refl _ | omega) :
    RelF c fx ρ st { s with heap := s.heap.push o, toks := t } ∧ Nxt fx.own ρ s ρ { s with heap := s.heap.push o, toks := t } ∧ Still (s.heap.push o) (fx.mv ρ) s.heap.objs.size o := by
  have g : Grow s { s with heap := s.heap.push o, toks := t } := .heap fun _ _ e => Heap.get?_push_of_some _ e
  refine ⟨R.grow g, g.nxt, Heap.get?_push_size _ hf, ?_⟩
  intro hm
  have hn : s.heap.get? s.heap.objs.size = none := by
    cases e : s.heap.get? s.heap.objs.size with
    | none => rfl
    | some o => exact absurd (Heap.lt_size e) (Nat.lt_irrefl _)
  simp only [Fx.mv, List.mem_append] at hm
  rcases hm with hm | hm
  · obtain ⟨i, p, e, hh⟩ := Rho.mem_addrs.mp hm
    have hi : i < st.σ.length := by rw [← R.rel.len]; exact (List.getElem?_eq_some_iff.mp e).1
    have := R.rel.objs i p st.σ[i] e (List.getElem?_eq_getElem hi)
    cases hσ : st.σ[i] with
    | lst ds =>
      rw [hσ] at this; obtain ⟨e1, vs, n, a, b⟩ := this
      rcases hh with hh | hh
      · rw [← hh, hn] at a; cases a
      · rw [e1, ← hh, hn] at a; cases a
    | inst K ns xs =>
      rw [hσ] at this; obtain ⟨_, _, e1, es, n, vs, a, b, _⟩ := this
      rcases hh with hh | hh
      · rw [← hh, hn] at a; cases a
      · rw [← hh, hn] at b; cases b
  · obtain ⟨o', e⟩ := R.rel.avs _ (List.mem_append.mpr hm)
    rw [hn] at e; cases e

theorem augS_snd {op : Operator} {x y : V} {k : KV} (h : augS op x y st k) : TO c fx (fun vs => inplaceOp op (vs.getD 0 .none) (vs.getD 1 .none)) [x, y] st k := by
  intro ρ s Q E vals R hv q
  obtain ⟨u, v, rfl, hu, hw⟩ := hv.two
  cases op with
  | Add =>
    obtain ⟨a, rfl, h⟩ := int1_inv h
    obtain ⟨b, rfl, h⟩ := int1_inv h
    obtain ⟨t, rfl⟩ := hu; obtain ⟨t', rfl⟩ := hw
    exact iadd_int (q _ _ _ _ _ (R.grow .tk) (Grow.nxt .tk) .int h)
  | Sub =>
    obtain ⟨a, rfl, h⟩ := int1_inv h
    obtain ⟨b, rfl, h⟩ := int1_inv h
    obtain ⟨t, rfl⟩ := hu; obtain ⟨t', rfl⟩ := hw
    exact isub_int (q _ _ _ _ _ (R.grow .tk) (Grow.nxt .tk) .int h)
  | _ => exact h.elim

theorem unS_snd {op : UnaryOp} {x : V} {k : KV} (h : unS op x st k) : TO c fx (fun vs => unaryOp op (vs.getD 0 .none)) [x] st k := by
  intro ρ s Q E vals R hv q
  obtain ⟨u, rfl, hu⟩ := hv.one
  unfold unS at h
  split at h
  · obtain ⟨t, rfl⟩ := hu
    exact neg_int (q _ _ _ _ _ (R.grow .tk) (Grow.nxt .tk) .int h)
  · exact h.elim

theorem truthS_snd {x : V} {k : KB} (h : truthS x st k) : TOB c fx (fun vs => truthy (vs.getD 0 .none)) [x] st k := by
  intro ρ s Q E vals R hv q
  obtain ⟨u, rfl, hu⟩ := hv.one
  unfold truthS at h
  split at h
  · cases hu; exact wpAny_truthy_bool (q _ _ _ _ R .refl h)
  · obtain ⟨t, rfl⟩ := hu; exact truthy_int (q _ _ _ _ R .refl h)
  · rename_i z
    obtain ⟨t, rfl⟩ := hu
    refine PySem.P.truthy_str (by have := h.1; omega) ?_
    have e : ((z.length : Int) != 0) = !z.cps.isEmpty := by
      show ((z.cps.size : Int) != 0) = !z.cps.isEmpty
      rw [Array.isEmpty]
      cases hz : z.cps.size <;> simp
      omega
    rw [e]
    exact q _ _ _ _ (R.grow .tk) (Grow.nxt .tk) h.2
  · cases hu; exact truthy_none (q _ _ _ _ R .refl h)
  · exact h.elim
end


theorem foldl_append_arr {α : Type} : ∀ (l : List (Array α)) (a : Array α), l.foldl (fun x y => x ++ y) a = (a.toList ++ (l.map (·.toList)).flatten).toArray
  | [], a => by simp
  | x :: l, a => by rw [List.foldl_cons, foldl_append_arr l]; simp

theorem txt_mul (x : Str) (n : Int) : Txt.mul x n = ⟨(List.replicate n.toNat x.cps.toList).flatten.toArray⟩ := by
  unfold Txt.mul
  split
  · rename_i h
    have : n.toNat = 0 := by omega
    rw [this]; rfl
  · split
    · rename_i h1 h2
      simp only [Bool.or_eq_true, beq_iff_eq] at h2
      rcases h2 with rfl | h2
      · simp
      · have e : x.cps.toList = [] := by
          have : x.cps.size = 0 := h2
          simpa using this
        rw [e]
        cases x with
        | mk a =>
          have ha : a = #[] := by simpa using e
          subst ha
          have : ∀ k : Nat, (List.replicate k ([] : List Nat)).flatten = [] := fun k => by induction k <;> simp_all [List.replicate_succ]
          rw [this]
    · rw [foldl_append_arr]; simp

section
variable {c : Cx} {r : Nat} {fx : Fx} {vs : Vis} {st : St}
variable {prog : Program} {w : World} {A : Around} {E : Value → Shared → Prop} {s : Shared}

theorem add_lists_push {l b : Addr} {vs ws : List Value} {n m : Nat} {Q : Value → Shared → Prop} (hl : s.heap.get? l = some (lstObj vs n)) (hb : s.heap.get? b = some (lstObj ws m))
    (h : Q (.ref s.heap.objs.size) { s with heap := s.heap.push (lstObj (vs ++ ws) 0) }) (hsz : vs.length + ws.length ≤ sizeLine) : wpAny (model prog w) A (binaryOp .Add (.ref l) (.ref b)) Q E s := by
  have e : vs.toArray ++ ws.toArray = (vs ++ ws).toArray := by simp
  refine concat_meets ⟨_, hl, rfl⟩ ⟨_, hb, rfl⟩ noFill_list_add seq_list_add PySem.F.slot_list_add PySem.F.entry_list_add (PySem.F.args_list_add_2 _ _) (list_addW l b vs.toArray ws.toArray n m none none #[] #[] (by simpa using hsz)) ⟨hl, hb, ?_⟩
  rw [e]; exact h

theorem mul_list_push {l : Addr} {vs : List Value} {k : Nat} {x : Int} {u : Tok} {Q : Value → Shared → Prop} (hl : s.heap.get? l = some (lstObj vs k))
    (hlo : -(2 ^ 63 : Int) ≤ x) (hhi : x < 2 ^ 63) (hsz : vs.length * x.toNat ≤ 2 ^ 24)
    (h : Q (.ref s.heap.objs.size) { s with heap := s.heap.push (lstObj (List.replicate x.toNat vs).flatten 0) }) : wpAny (model prog w) A (binaryOp .Mult (.ref l) (.int x u)) Q E s := by
  refine wpAny_binaryOp_repeat_ref (T := "list") (U := "int") (by decide) ⟨_, hl, rfl⟩ (fun s' => typeIs_int s' x u) noFill_list_mul PySem.F.fills_int_mul PySem.F.slot_int_rmul repeat_list PySem.F.slot_int_index.lookup
    (call_meets PySem.F.slot_int_rmul (typeIs_int s x u) PySem.F.entry_int_rmul (PySem.F.args_int_rmul_2 _ _) (int___rmul___int_list x u l vs.toArray k)
      ⟨hl, rfl, ⟨_, hl, rfl⟩, call_meets PySem.F.slot_list_mul ⟨_, hl, rfl⟩ PySem.F.entry_list_mul (PySem.F.args_list_mul_2 _ _)
        (AutoListH.list___mul___list_int_3 l vs.toArray k x u (by simp [Builtin.List.listFitsIndex]; omega) (by simpa using by omega) (by simp [Builtin.List.listTooLong, sizeLine]; omega))
        ⟨hl, ?_⟩⟩)
  have e : List.foldl (fun x1 x2 => x1 ++ x2) #[] (List.replicate (if vs.toArray.isEmpty = true then 0 else x.toNat) vs.toArray) = (List.replicate x.toNat vs).flatten.toArray := by
    rw [foldl_append_arr]
    cases vs with
    | nil =>
      have : ∀ k : Nat, (List.replicate k ([] : List Value)).flatten = [] := fun k => by induction k <;> simp_all [List.replicate_succ]
      simp [this]
    | cons a b => simp
  rw [e]; exact h

theorem Reps.replicate {C : Addr} {P : ObjAt} {ds : List D} {vs : List Value} (h : Reps C P ds vs) : ∀ n, Reps C P (List.replicate n ds).flatten (List.replicate n vs).flatten
  | 0 => .nil
  | n + 1 => by
    rw [List.replicate_succ, List.replicate_succ, List.flatten_cons, List.flatten_cons]
    exact h.append (Reps.replicate h n)

theorem catS_snd {x y : V} {k : KV} (h : catS x y st k) : TO c fx (fun vs => binaryOp .Add (vs.getD 0 .none) (vs.getD 1 .none)) [x, y] st k := by
  intro ρ s Q E vals R hv q
  obtain ⟨u, v, rfl, hu, hw⟩ := hv.two
  show wpAny _ _ (binaryOp .Add u v) Q E s
  unfold catS at h
  split at h
  · rename_i ds es e1 e2
    obtain ⟨a, us, n, rfl, p1, p2⟩ := listOf_at R e1 hu
    obtain ⟨b, ws, m, rfl, p3, p4⟩ := listOf_at R e2 hw
    refine add_lists_push p1 p3 ?_ (by rw [p2.length, p4.length]; exact h.1)
    exact newL_snd (t := s.toks) R (p2.append p4) h.2 q
  · exact h.elim

theorem addS_snd {x y : V} {k : KV} (h : addS x y st k) : TO c fx (fun vs => binaryOp .Add (vs.getD 0 .none) (vs.getD 1 .none)) [x, y] st k := by
  cases x with
  | d d => cases d with
    | int a =>
      intro ρ s Q E vals R hv q
      obtain ⟨b, rfl, h⟩ := int1_inv h
      obtain ⟨u, v, rfl, ⟨t, rfl⟩, ⟨t', rfl⟩⟩ := hv.two
      exact add_int (q _ _ _ _ _ (R.grow .tk) (Grow.nxt .tk) .int h)
    | str a =>
      intro ρ s Q E vals R hv q
      obtain ⟨b, rfl, h⟩ := str1_inv h
      obtain ⟨u, v, rfl, ⟨t, rfl⟩, ⟨t', rfl⟩⟩ := hv.two
      exact withT (add_str (fun t' tk ht => q _ _ _ _ _ (R.grow (.tk ht)) (Grow.nxt (.tk ht)) .str h.2) h.1)
    | list a => exact catS_snd h
    | _ => exact h.elim
  | lst i => exact catS_snd h
  | _ => exact h.elim

theorem mulS_snd {x : V} {b : Int} {k : KV} (h : mulS x b st k) : TO c fx (fun vs => binaryOp .Mult (vs.getD 0 .none) (vs.getD 1 .none)) [x, .d (.int b)] st k := by
  intro ρ s Q E vals R hv q
  obtain ⟨u, v, rfl, hu, ⟨t', rfl⟩⟩ := hv.two
  cases x with
  | d d => cases d with
    | int a =>
      obtain ⟨t, rfl⟩ := hu
      exact mul_int (q _ _ _ _ _ (R.grow .tk) (Grow.nxt .tk) .int h.2) h.1
    | str a =>
      obtain ⟨t, rfl⟩ := hu
      obtain ⟨h1, h2, hk⟩ := h
      show wpAny _ _ (binaryOp .Mult (.str a t) (.int b t')) Q E s
      refine withT (SB.mul ⟨by simp only [Bool.or_eq_false_iff, decide_eq_false_iff_not]; omega, fun h3 h4 h5 => ?_, fun h3 h4 => ?_⟩ fun t' tk ht => ?_)
      · have hb : 0 < b := by omega
        have : (a.length : Int) * b ≤ 1000 := by
          have e : (b.toNat : Int) = b := Int.toNat_of_nonneg (by omega)
          have : ((b.toNat * a.length : Nat) : Int) ≤ ((1000 : Nat) : Int) := Int.ofNat_le.mpr h1
          rw [Int.natCast_mul, e, Int.mul_comm] at this; exact this
        have h6 : (2 ^ 63 - 1 : Int) / b < a.length := h5
        have h7 := (Int.ediv_lt_iff_lt_mul hb).mp h6
        omega
      · unfold Builtin.Str.tooLong
        have : a.length * b.toNat ≤ 1000 := by rw [Nat.mul_comm]; exact h1
        exact decide_eq_false (Nat.not_lt.mpr (Nat.le_trans this (by decide)))
      · rw [txt_mul]; exact q _ _ _ _ _ (R.grow (.tk ht)) (Grow.nxt (.tk ht)) .str hk
    | list ds =>
      obtain ⟨a, vs', n, rfl, p1, p2⟩ := hu
      obtain ⟨h1, h2, hk⟩ := h
      have hl := p2.length
      refine mul_list_push p1.1 (by omega) (by omega) ?_ ?_
      · rw [hl, Nat.mul_comm]; exact Nat.le_trans h1 (by decide)
      · exact newL_snd (t := s.toks) R (p2.replicate _) hk q
    | _ => exact h.elim
  | _ => exact h.elim

theorem binS_snd {op : Operator} {x y : V} {k : KV} (h : binS op x y st k) : TO c fx (fun vs => binaryOp op (vs.getD 0 .none) (vs.getD 1 .none)) [x, y] st k := by
  cases op with
  | Add => exact addS_snd h
  | Mult =>
    obtain ⟨b, rfl, h⟩ := int1_inv h
    exact mulS_snd h
  | Sub =>
    intro ρ s Q E vals R hv q
    obtain ⟨a, rfl, h⟩ := int1_inv h
    obtain ⟨b, rfl, h⟩ := int1_inv h
    obtain ⟨u, v, rfl, ⟨t, rfl⟩, ⟨t', rfl⟩⟩ := hv.two
    exact sub_int (q _ _ _ _ _ (R.grow .tk) (Grow.nxt .tk) .int h)
  | FloorDiv =>
    intro ρ s Q E vals R hv q
    obtain ⟨a, rfl, h⟩ := int1_inv h
    obtain ⟨b, rfl, h⟩ := int1_inv h
    obtain ⟨u, v, rfl, ⟨t, rfl⟩, ⟨t', rfl⟩⟩ := hv.two
    exact floordiv_int h.1 (q _ _ _ _ _ (R.grow .tk) (Grow.nxt .tk) .int h.2.2) (.inl h.2.1)
  | Mod =>
    intro ρ s Q E vals R hv q
    obtain ⟨a, rfl, h⟩ := int1_inv h
    obtain ⟨b, rfl, h⟩ := int1_inv h
    obtain ⟨u, v, rfl, ⟨t, rfl⟩, ⟨t', rfl⟩⟩ := hv.two
    exact mod_int' h.1 (q _ _ _ _ _ (R.grow .tk) (Grow.nxt .tk) .int h.2)
  | _ => exact h.elim
end


mutual
theorem Rep.reads {C : Addr} {P : ObjAt} {h : Heap} (hP : ∀ a o, P a o → h.get? a = some o) : ∀ {d : D} {v : Value}, d.isData = true → Rep C P d v → ∃ as, Reads h v (toPy d) as
  | .none, _, _, e => by cases e; exact ⟨_, .none⟩
  | .bool b, _, _, e => by cases e; exact ⟨_, .bool b⟩
  | .int i, _, _, ⟨t, e⟩ => by cases e; exact ⟨_, .int i t⟩
  | .str x, _, _, ⟨t, e⟩ => by cases e; exact ⟨_, .str x t⟩
  | .list ds, _, hd, ⟨a, vs, n, e, p, r⟩ => by
    subst e
    obtain ⟨as, q⟩ := Reps.reads hP (ds := ds) hd r
    exact ⟨_, .list (hP _ _ p) rfl rfl (by simpa using q)⟩
  | .tup ds, _, hd, ⟨a, vs, n, e, p, r⟩ => by
    subst e
    obtain ⟨as, q⟩ := Reps.reads hP (ds := ds) hd r
    exact ⟨_, .tuple (hP _ _ p) rfl rfl (by simpa using q)⟩
  | .rng _ _ _, _, hd, _ => (Bool.false_ne_true hd).elim
  | .ws _, _, hd, _ => (Bool.false_ne_true hd).elim
theorem Reps.reads {C : Addr} {P : ObjAt} {h : Heap} (hP : ∀ a o, P a o → h.get? a = some o) : ∀ {ds : List D} {vs : List Value}, D.areData ds = true → Reps C P ds vs → ∃ as, ReadsAll h vs (toPys ds) as
  | [], vs, _, e => by dsimp only [Reps] at e; subst e; exact ⟨_, .nil⟩
  | d :: ds, _, hd, ⟨v, r, e, x, y⟩ => by
    subst e
    dsimp only [D.areData] at hd; simp only [Bool.and_eq_true] at hd
    obtain ⟨as, q⟩ := Rep.reads hP hd.1 x
    obtain ⟨bs, q'⟩ := Reps.reads hP hd.2 y
    exact ⟨_, .cons q q'⟩
end

section
variable {c : Cx} {r : Nat} {fx : Fx} {vs : Vis} {st : St}

theorem frozen_at {ρ : Rho} {s : Shared} (R : RelF c fx ρ st s) {x : V} {d : D} {u : Value} (h : x.frozen st = some d) (hu : VRep c.C ρ (Still s.heap (fx.mv ρ)) x u) (hd : d.isData = true) :
    ∃ as, Reads s.heap u (toPy d) as := by
  cases x with
  | d x => cases h; exact Rep.reads (fun a o p => p.1) hd hu
  | lst i =>
    dsimp only [V.frozen] at h
    split at h
    · rename_i e
      cases h
      obtain ⟨a, vs, n, e1, e2, e3⟩ := R.list e
      obtain ⟨p, e4, rfl⟩ := hu
      rw [e1] at e4; cases e4
      obtain ⟨as, q⟩ := Reps.reads (fun a o p => p.1) hd e3
      exact ⟨_, .list e2 rfl rfl (by simpa using q)⟩
    · cases h
  | _ => exact nomatch h

theorem eqF_snd {x y : V} {k : KB} (ok : Room r fx.A) (h : eqF x y st k) {ρ : Rho} {s : Shared} {Q E : Value → Shared → Prop} {u v : Value} (R : RelF c fx ρ st s)
    (hu : VRep c.C ρ (Still s.heap (fx.mv ρ)) x u) (hw : VRep c.C ρ (Still s.heap (fx.mv ρ)) y v) (q : ∀ b st', st' = st → k b st → Q (.bool b) s) : wpAny (model c.prog c.w) fx.A (compareOp .Eq u v) Q E s := by
  unfold eqF at h
  split at h
  · rename_i e1 e2
    obtain ⟨h1, h2, h3, h4, h5⟩ := h
    obtain ⟨as, r1⟩ := frozen_at R e1 hu h1
    obtain ⟨bs, r2⟩ := frozen_at R e2 hw h2
    exact SeqAt.compareEq_shaped r1 r2 h3 h4 (by have := ok.units; omega) (q _ _ rfl h5)
  · exact h.elim
theorem eqS_snd {x y : V} {k : KB} (ok : Room r fx.A) (h : eqS x y st k) {ρ : Rho} {s : Shared} {Q E : Value → Shared → Prop} {u v : Value} (R : RelF c fx ρ st s)
    (hu : VRep c.C ρ (Still s.heap (fx.mv ρ)) x u) (hw : VRep c.C ρ (Still s.heap (fx.mv ρ)) y v) (q : ∀ b st', st' = st → k b st → Q (.bool b) s) : wpAny (model c.prog c.w) fx.A (compareOp .Eq u v) Q E s := by
  cases x with
  | d d => cases d with
    | int a =>
      obtain ⟨b, rfl, h⟩ := int1_inv h
      obtain ⟨t, rfl⟩ := hu; obtain ⟨t', rfl⟩ := hw; exact eq_int (q _ _ rfl h)
    | bool a =>
      obtain ⟨b, rfl, h⟩ := bool1_inv h
      cases hu; cases hw; exact eq_bool (q _ _ rfl h)
    | str a =>
      obtain ⟨b, rfl, h⟩ := str1_inv h
      obtain ⟨t, rfl⟩ := hu; obtain ⟨t', rfl⟩ := hw; exact eq_str (q _ _ rfl h)
    | list a => exact eqF_snd ok h R hu hw q
    | tup a => exact eqF_snd ok h R hu hw q
    | _ => exact h.elim
  | lst i => exact eqF_snd ok h R hu hw q
  | _ => exact h.elim
theorem neF_snd {x y : V} {k : KB} (ok : Room r fx.A) (h : eqF x y st k) {ρ : Rho} {s : Shared} {Q E : Value → Shared → Prop} {u v : Value} (R : RelF c fx ρ st s)
    (hu : VRep c.C ρ (Still s.heap (fx.mv ρ)) x u) (hw : VRep c.C ρ (Still s.heap (fx.mv ρ)) y v) (q : ∀ b st', st' = st → k b st → Q (.bool !b) s) : wpAny (model c.prog c.w) fx.A (compareOp .NotEq u v) Q E s := by
  unfold eqF at h
  split at h
  · rename_i e1 e2
    obtain ⟨h1, h2, h3, h4, h5⟩ := h
    obtain ⟨as, r1⟩ := frozen_at R e1 hu h1
    obtain ⟨bs, r2⟩ := frozen_at R e2 hw h2
    exact SeqAt.compareNe_shaped r1 r2 h3 h4 (by have := ok.units; omega) (q _ _ rfl h5)
  · exact h.elim
theorem neS_snd {x y : V} {k : KB} (ok : Room r fx.A) (h : eqS x y st k) {ρ : Rho} {s : Shared} {Q E : Value → Shared → Prop} {u v : Value} (R : RelF c fx ρ st s)
    (hu : VRep c.C ρ (Still s.heap (fx.mv ρ)) x u) (hw : VRep c.C ρ (Still s.heap (fx.mv ρ)) y v) (q : ∀ b st', st' = st → k b st → Q (.bool !b) s) : wpAny (model c.prog c.w) fx.A (compareOp .NotEq u v) Q E s := by
  cases x with
  | d d => cases d with
    | int a =>
      obtain ⟨b, rfl, h⟩ := int1_inv h
      obtain ⟨t, rfl⟩ := hu; obtain ⟨t', rfl⟩ := hw; exact ne_int (q _ _ rfl h)
    | bool a =>
      obtain ⟨b, rfl, h⟩ := bool1_inv h
      cases hu; cases hw
      exact SeqAt.compareNe_shaped (.bool a) (.bool b) rfl rfl (by have := ok.units; omega) (q (a == b) st rfl h)
    | str a =>
      obtain ⟨b, rfl, h⟩ := str1_inv h
      obtain ⟨t, rfl⟩ := hu; obtain ⟨t', rfl⟩ := hw; exact ne_str (q _ _ rfl h)
    | list a => exact neF_snd ok h R hu hw q
    | tup a => exact neF_snd ok h R hu hw q
    | _ => exact h.elim
  | lst i => exact neF_snd ok h R hu hw q
  | _ => exact h.elim

theorem beq_type (a b : String) : (Value.type a == Value.type b) = (a == b) := by
  by_cases h : a = b
  · subst h; simp
  · have : Value.type a ≠ Value.type b := fun e => h (Value.type.inj e)
    rw [beq_eq_false_iff_ne.mpr this, beq_eq_false_iff_ne.mpr h]
theorem isSame_type (a b : String) : isSame (.type a) (.type b) = pure (a == b) := by
  rw [← beq_type]; rfl
theorem is_type {M : Model} {A : Around} {E : Value → Shared → Prop} {s : Shared} {a b : String} {Q : Value → Shared → Prop} (h : Q (.bool (a == b)) s) : wpAny M A (compareOp .Is (.type a) (.type b)) Q E s := by
  show wpAny M A (do return .bool (← isSame (.type a) (.type b))) Q E s
  rw [isSame_type]; exact wpAny_bind (wpAny_pure (wpAny_pure h))
theorem isNot_type {M : Model} {A : Around} {E : Value → Shared → Prop} {s : Shared} {a b : String} {Q : Value → Shared → Prop} (h : Q (.bool (a != b)) s) : wpAny M A (compareOp .IsNot (.type a) (.type b)) Q E s := by
  show wpAny M A (do return .bool (!(← isSame (.type a) (.type b)))) Q E s
  rw [isSame_type]; exact wpAny_bind (wpAny_pure (wpAny_pure h))

theorem isS_snd {x y : V} {k : KV} (h : isS id x y st k) : TO c fx (fun vs => compareOp .Is (vs.getD 0 .none) (vs.getD 1 .none)) [x, y] st k := by
  intro ρ s Q E vals R hv q
  obtain ⟨u, v, rfl, hu, hw⟩ := hv.two
  cases y with
  | d d => cases d with
    | none =>
      cases hw
      cases x with
      | d d => cases d with
        | none => cases hu; exact is_none (q _ _ _ _ _ R .refl .bool h)
        | str a => obtain ⟨t, rfl⟩ := hu; exact is_none (q _ _ _ _ _ R .refl .bool h)
        | _ => exact h.elim
      | lst i => obtain ⟨p, e, rfl⟩ := hu; exact is_none (q _ _ _ _ _ R .refl .bool h)
      | _ => exact h.elim
    | _ => exact h.elim
  | ty b => cases x with
    | ty a => cases hu; cases hw; exact is_type (q _ _ _ _ _ R .refl .bool h)
    | _ => exact h.elim
  | _ => exact h.elim
theorem isNotS_snd {x y : V} {k : KV} (h : isS not x y st k) : TO c fx (fun vs => compareOp .IsNot (vs.getD 0 .none) (vs.getD 1 .none)) [x, y] st k := by
  intro ρ s Q E vals R hv q
  obtain ⟨u, v, rfl, hu, hw⟩ := hv.two
  cases y with
  | d d => cases d with
    | none =>
      cases hw
      cases x with
      | d d => cases d with
        | none => cases hu; exact isNot_none (q _ _ _ _ _ R .refl .bool h)
        | str a => obtain ⟨t, rfl⟩ := hu; exact isNot_none (q _ _ _ _ _ R .refl .bool h)
        | _ => exact h.elim
      | lst i => obtain ⟨p, e, rfl⟩ := hu; exact isNot_none (q _ _ _ _ _ R .refl .bool h)
      | _ => exact h.elim
    | _ => exact h.elim
  | ty b => cases x with
    | ty a => cases hu; cases hw; exact isNot_type (q _ _ _ _ _ R .refl .bool h)
    | _ => exact h.elim
  | _ => exact h.elim

theorem cmpS_snd {op : CmpOp} {x y : V} {k : KV} (ok : Room r fx.A) (h : cmpS op x y st k) : TO c fx (fun vs => compareOp op (vs.getD 0 .none) (vs.getD 1 .none)) [x, y] st k := by
  cases op with
  | Is => exact isS_snd h
  | IsNot => exact isNotS_snd h
  | Eq =>
    intro ρ s Q E vals R hv q
    obtain ⟨u, v, rfl, hu, hw⟩ := hv.two
    have h : eqS x y st fun b st => k (.d (.bool b)) st := h
    exact eqS_snd ok h R hu hw fun b st' _ hk => q _ _ _ _ _ R .refl .bool hk
  | NotEq =>
    intro ρ s Q E vals R hv q
    obtain ⟨u, v, rfl, hu, hw⟩ := hv.two
    have h : eqS x y st fun b st => k (.d (.bool (!b))) st := h
    exact neS_snd ok h R hu hw fun b st' _ hk => q _ _ _ _ _ R .refl .bool hk
  | Lt =>
    intro ρ s Q E vals R hv q
    obtain ⟨a, rfl, h⟩ := int1_inv h
    obtain ⟨b, rfl, h⟩ := int1_inv h
    obtain ⟨u, v, rfl, ⟨t, rfl⟩, ⟨t', rfl⟩⟩ := hv.two
    exact lt_int (q _ _ _ _ _ R .refl .bool h)
  | LtE =>
    intro ρ s Q E vals R hv q
    obtain ⟨a, rfl, h⟩ := int1_inv h
    obtain ⟨b, rfl, h⟩ := int1_inv h
    obtain ⟨u, v, rfl, ⟨t, rfl⟩, ⟨t', rfl⟩⟩ := hv.two
    exact le_int (q _ _ _ _ _ R .refl .bool h)
  | Gt =>
    intro ρ s Q E vals R hv q
    obtain ⟨a, rfl, h⟩ := int1_inv h
    obtain ⟨b, rfl, h⟩ := int1_inv h
    obtain ⟨u, v, rfl, ⟨t, rfl⟩, ⟨t', rfl⟩⟩ := hv.two
    exact gt_int (q _ _ _ _ _ R .refl .bool h)
  | GtE =>
    intro ρ s Q E vals R hv q
    obtain ⟨a, rfl, h⟩ := int1_inv h
    obtain ⟨b, rfl, h⟩ := int1_inv h
    obtain ⟨u, v, rfl, ⟨t, rfl⟩, ⟨t', rfl⟩⟩ := hv.two
    exact ge_int (q _ _ _ _ _ R .refl .bool h)
  | _ => exact h.elim
end


theorem seqIndex_pos {i : Int} {n : Nat} (h0 : 0 ≤ i) (h1 : i < n) : seqIndex? i n = some i.toNat := by
  have key : seqIndex? i n = if (decide (0 ≤ (if i < 0 then i + (n : Int) else i)) && decide ((if i < 0 then i + (n : Int) else i) < n)) = true then some (if i < 0 then i + (n : Int) else i).toNat else none := rfl
  rw [key]
  simp only [show ¬ i < 0 by omega, if_false]
  rw [if_pos (by simp [h0, h1])]
theorem seqIndex_neg {i : Int} {n : Nat} (h0 : i < 0) (h1 : 0 ≤ i + n) : seqIndex? i n = some (i + n).toNat := by
  have key : seqIndex? i n = if (decide (0 ≤ (if i < 0 then i + (n : Int) else i)) && decide ((if i < 0 then i + (n : Int) else i) < n)) = true then some (if i < 0 then i + (n : Int) else i).toNat else none := rfl
  rw [key]
  simp only [h0, if_true]
  rw [if_pos (by simp only [Bool.and_eq_true, decide_eq_true_eq]; omega)]
theorem seqIndex_of {α : Type} {l : List α} {i : Int} {a : α} (h : atIdx l i = some a) : ∃ j, seqIndex? i l.length = some j ∧ l[j]? = some a ∧ -(l.length : Int) ≤ i ∧ i < l.length := by
  unfold atIdx at h
  split at h
  · rename_i h0
    have hj := (List.getElem?_eq_some_iff.mp h).1
    exact ⟨i.toNat, seqIndex_pos h0 (by omega), h, by omega, by omega⟩
  · split at h
    · rename_i h0 h1
      exact ⟨(i + l.length).toNat, seqIndex_neg (by omega) h1, h, by omega, by omega⟩
    · cases h
theorem VRep.tree {C : Addr} {ρ : Rho} {P : ObjAt} {d : D} {v : Value} (h : Rep C P d v) : VRep C ρ P (.d d) v := h

section
variable {c : Cx} {r : Nat} {fx : Fx} {vs : Vis} {st : St}
variable {prog : Program} {w : World} {A : Around} {E : Value → Shared → Prop} {s : Shared}

theorem getItem_list_at {l : Addr} {vs : List Value} {n : Nat} {k : Int} {t : Tok} {x : Value} {Q : Value → Shared → Prop} (hl : s.heap.get? l = some (lstObj vs n)) (hs : vs.length < 2 ^ 62) (hx : atIdx vs k = some x)
    (h : Q x s) : wpAny (model prog w) A (getItem (.ref l) (.int k t)) Q E s := by
  obtain ⟨j, h1, h2, h3, h4⟩ := seqIndex_of hx
  unfold atIdx at hx
  split at hx
  · rename_i h0
    exact wpAny_getItem_list (lst_is hl) h0 (by omega) (by simpa using hx) h
  · split at hx
    · rename_i h0 h5
      exact wpAny_getItem_list_neg (lst_is hl) (by omega) (by simpa using h3) (by omega) (by simpa using hx) h
    · cases hx

theorem atIdx_reps {C : Addr} {P : ObjAt} {ds : List D} {vs : List Value} {i : Int} {d : D} (hr : Reps C P ds vs) (h : atIdx ds i = some d) : ∃ v, atIdx vs i = some v ∧ Rep C P d v := by
  have e := hr.length
  unfold atIdx at *
  rw [e]
  split at h
  · rename_i h0; rw [if_pos h0]; exact hr.get h
  · split at h
    · rename_i h0 h1; rw [if_neg h0, if_pos h1]; exact hr.get h
    · cases h

theorem subS_snd {va sl : Expr} {x y : V} {k : KV} (hs : ∀ o i, ∃ ops, subscripted sl false o i = operate ops (getItem o i)) (h : subS x y st k) :
    TO c fx (fun vs => subscriptTail va sl (vs.getD 0 .none) (vs.getD 1 .none)) [x, y] st k := by
  intro ρ s Q E vals R hv q
  obtain ⟨u, v, rfl, hu, hw⟩ := hv.two
  show wpAny _ _ (subscriptTail va sl u v) Q E s
  obtain ⟨ops, hops⟩ := hs u v
  obtain ⟨i, rfl, h0⟩ := int1_inv h
  clear h
  obtain ⟨t', rfl⟩ := hw
  cases x with
  | d d => cases d with
    | list ds =>
      obtain ⟨d, h1, h2, h3⟩ := h0
      obtain ⟨a, us, n, rfl, p, hr⟩ := hu
      obtain ⟨x, hx, rx⟩ := atIdx_reps hr h1
      exact tail_any (lst_is p.1).typeIs slot_list_getitem.lookup (getItem_list_at p.1 (by rw [hr.length]; exact h2) hx (q _ _ _ _ _ R .refl (.tree rx) h3)) hops
    | tup ds =>
      obtain ⟨d, h1, h2, h3⟩ := h0
      obtain ⟨a, us, n, rfl, p, hr⟩ := hu
      obtain ⟨x, hx, rx⟩ := atIdx_reps hr h1
      obtain ⟨j, e1, e2, e3, e4⟩ := seqIndex_of hx
      have hlen : us.length < 2 ^ 62 := by rw [hr.length]; exact h2
      exact tail_any (T := "tuple") ⟨_, p.1, rfl⟩ PyProof.Rows.slot_tuple_getitem.lookup (PySem.P.getItem_tuple (items := us.toArray) (n := n) p.1 (by omega) (by omega) (by simpa using e1) (by simpa using e2) (q _ _ _ _ _ R .refl (.tree rx) h3)) hops
    | str z =>
      obtain ⟨ch, h1, h2, h3⟩ := h0
      obtain ⟨t, rfl⟩ := hu
      obtain ⟨j, e1, e2, e3, e4⟩ := seqIndex_of h1
      have hl : z.cps.toList.length = z.length := by simp [Str.length]
      rw [hl] at e1 e3 e4
      refine tail_any (typeIs_str s z t) PySem.F.slot_str_getitem.lookup (PyProof.Rows.getItem_str (c := ch) (by simp only [Bool.or_eq_false_iff, decide_eq_false_iff_not]; omega) ?_ (q _ _ _ _ _ (R.grow .tk) (Grow.nxt .tk) .str h3)) hops
      rw [e1]; simpa using e2
    | _ => exact h0.elim
  | lst j =>
    obtain ⟨_, ds, e0, e, d, h1, h2, h3⟩ := trk1_inv (x := .lst j) (st := st) (k := fun ds => ∃ d, atIdx ds i = some d ∧ ds.length < 2 ^ 62 ∧ k (.d d) st) h0
    cases e0
    obtain ⟨a, us, n, e1, p, hr⟩ := R.list e
    obtain ⟨p', e2, rfl⟩ := hu
    rw [e1] at e2; cases e2
    obtain ⟨x, hx, rx⟩ := atIdx_reps hr h1
    exact tail_any (lst_is p).typeIs slot_list_getitem.lookup (getItem_list_at p (by rw [hr.length]; exact h2) hx (q _ _ _ _ _ R .refl (.tree rx) h3)) hops
  | _ => exact h0.elim

theorem TE_sub {a i : Expr} {p : Pos} {k : KV} (hs : ∀ o v, ∃ ops, subscripted i false o v = operate ops (getItem o v))
    (h : TE c fx (eval a fx.env) st fun x st1 => TE c fx (eval i fx.env) st1 fun y st2 => subS x y st2 k) : TE c fx (eval (.Subscript a i p) fx.env) st k :=
  fun ρ s Q E R q => Subscript_ (h ρ s _ _ R fun x st1 ρ1 val1 s1 R1 N1 r1 h1 => h1 ρ1 s1 _ _ R1 fun y st2 ρ2 val2 s2 R2 N2 r2 h2 =>
    subS_snd hs h2 ρ2 s2 Q E [val1, val2] R2 (.cons (r1.nxt N2) (.cons r2 .nil)) fun v st3 ρ3 val3 s3 R3 N3 r3 h3 => q _ _ _ _ _ R3 (N1.trans (N2.trans N3)) r3 h3)

/-! slices -/
theorem partOf_is {C : Addr} {ρ : Rho} {P : ObjAt} {x : V} {v : Value} {o : Option Int} (h : partOf x = some o) (hv : VRep C ρ P x v) : IsPart v o ∧ ∃ q : Option (Int × Tok), v = partValue q ∧ q.map (·.1) = o := by
  unfold partOf at h
  split at h
  · cases h; cases hv; exact ⟨.none, none, rfl, rfl⟩
  · cases h; obtain ⟨t, rfl⟩ := hv; exact ⟨.int _ t, some (_, t), rfl, rfl⟩
  · cases h

theorem Reps.drop {C : Addr} {P : ObjAt} : ∀ {ds : List D} {vs : List Value} (n : Nat), Reps C P ds vs → Reps C P (ds.drop n) (vs.drop n)
  | _, _, 0, h => h
  | [], _, n + 1, h => by dsimp only [Reps] at h; subst h; exact .nil
  | _ :: _, _, n + 1, h => by
    dsimp only [Reps] at h
    obtain ⟨v, r, rfl, _, y⟩ := h
    exact Reps.drop n y
theorem Reps.take {C : Addr} {P : ObjAt} : ∀ {ds : List D} {vs : List Value} (n : Nat), Reps C P ds vs → Reps C P (ds.take n) (vs.take n)
  | _, _, 0, h => by simp only [List.take_zero]; exact .nil
  | [], _, n + 1, h => by dsimp only [Reps] at h; subst h; exact .nil
  | _ :: _, _, n + 1, h => by
    dsimp only [Reps] at h
    obtain ⟨v, r, rfl, x, y⟩ := h
    exact .cons x (Reps.take n y)
theorem Reps.cut {C : Addr} {P : ObjAt} {ds : List D} {vs : List Value} {lo hi : Option Int} (h : Reps C P ds vs) : Reps C P (cutOf ds lo hi) (cutOf vs lo hi) := by
  unfold cutOf; rw [h.length]; exact (h.drop _).take _
theorem Reps.picks {C : Addr} {P : ObjAt} {ds : List D} {vs : List Value} (h : Reps C P ds vs) : ∀ js : List Nat, Reps C P (js.filterMap fun j => ds[j]?) (js.filterMap fun j => vs[j]?)
  | [] => .nil
  | j :: js => by
    have ih := Reps.picks h js
    cases e : ds[j]? with
    | none =>
      have : vs[j]? = none := by
        rw [List.getElem?_eq_none_iff] at e ⊢; rw [h.length]; exact e
      rw [List.filterMap_cons, List.filterMap_cons, e, this]; exact ih
    | some d =>
      obtain ⟨v, hv, hr⟩ := h.get e
      rw [List.filterMap_cons, List.filterMap_cons, e, hv]; exact .cons hr ih
theorem Reps.pick {C : Addr} {P : ObjAt} {ds : List D} {vs : List Value} {lo hi z : Option Int} (h : Reps C P ds vs) : Reps C P (pickL ds lo hi z) (pickL vs lo hi z) := by
  unfold pickL; rw [h.length]; exact h.picks _

theorem slice_text (x : Str) (l u : Option Int) : Txt.slice x l u = ⟨(cutOf x.cps.toList l u).toArray⟩ := by
  have e : Builtin.Str.strSliceIndices l u 1 x.length = (List.range (u.elim x.length (clipAt x.length) - l.elim 0 (clipAt x.length))).map (l.elim 0 (clipAt x.length) + ·) := by
    rw [← sliceRange_one]
    have h := sliceBounds_plain l u x.length
    have h1 : Builtin.Str.strSliceIndices l u 1 x.length = sliceRange (sliceBounds l u none x.length).1 (sliceBounds l u none x.length).2.1 (sliceBounds l u none x.length).2.2 := by
      cases l <;> cases u <;> rfl
    rw [h1, h]
  have e2 : (Builtin.Str.strSliceIndices l u 1 x.length).filterMap (x.cps[·]?) = cutOf x.cps.toList l u := by
    rw [e, pick_run]
    unfold cutOf
    rw [show x.cps.toList.length = x.length by simp [Str.length]]
  unfold Txt.slice
  split
  · rename_i h
    simp only [beq_self_eq_true, Bool.true_and, beq_iff_eq] at h
    rw [← e2]
    -- all the places, in order
    have hlen : (u.elim x.length (clipAt x.length) - l.elim 0 (clipAt x.length)) = x.length := by rw [e] at h; simpa using h
    have hu : u.elim x.length (clipAt x.length) ≤ x.length := by
      cases u with
      | none => exact Nat.le_refl _
      | some j => simp only [Option.elim]; unfold clipAt; omega
    have hz : l.elim 0 (clipAt x.length) = 0 ∨ x.length = 0 := by omega
    rw [e, pick_run, hlen]
    cases x with
    | mk a =>
      rcases hz with hz | hz
      · rw [hz]; simp [Str.length]
        exact congrArg List.toArray (List.take_of_length_le (by simp)).symm
      · have : a = #[] := by
          have : a.size = 0 := hz
          simpa using this
        subst this; simp
  · rw [e2]

theorem slcS_snd {va sl : Expr} {x lo hi z : V} {k : KV} (hs : ∀ o i, ∃ ops, subscripted sl false o i = operate ops (getItem o i)) (h : slcS x lo hi z st k) {ρ : Rho} {s : Shared} {Q E : Value → Shared → Prop} {u l h' zv : Value}
    (R : RelF c fx ρ st s) (hu : VRep c.C ρ (Still s.heap (fx.mv ρ)) x u) (hl : VRep c.C ρ (Still s.heap (fx.mv ρ)) lo l) (hh : VRep c.C ρ (Still s.heap (fx.mv ρ)) hi h') (hz : VRep c.C ρ (Still s.heap (fx.mv ρ)) z zv)
    (q : ∀ v st' ρ' val s', RelF c fx ρ' st' s' → Nxt fx.own ρ s ρ' s' → VRep c.C ρ' (Still s'.heap (fx.mv ρ')) v val → k v st' → Q val s') :
    wpAny (model c.prog c.w) fx.A (subscriptTail va sl u (.ref s.heap.objs.size)) Q E { s with heap := s.heap.push { cls := .type "slice", data := .fields #[l, h', zv] } } := by
  obtain ⟨l0, e1, h⟩ := part1_inv h
  obtain ⟨h0, e2, h⟩ := part1_inv h
  obtain ⟨z0, e3, h⟩ := part1_inv h
  obtain ⟨p1, q1, rfl, m1⟩ := partOf_is e1 hl
  obtain ⟨p2, q2, rfl, m2⟩ := partOf_is e2 hh
  obtain ⟨p3, q3, rfl, m3⟩ := partOf_is e3 hz
  obtain ⟨ops, hops⟩ := hs u (.ref s.heap.objs.size)
  have hS : (s.heap.push { cls := .type "slice", data := .fields #[partValue q1, partValue q2, partValue q3] }).IsSliceOf s.heap.objs.size (partValue q1) (partValue q2) (partValue q3) := ⟨_, Heap.get?_push_size _ rfl, rfl, rfl⟩
  have g : Grow s { s with heap := s.heap.push { cls := .type "slice", data := .fields #[partValue q1, partValue q2, partValue q3] } } := .push
  have R1 := R.grow g
  have N1 : Nxt fx.own ρ s ρ _ := g.nxt
  have hu1 := hu.nxt (av := fx.av) N1
  cases x with
  | d d => cases d with
   | list ds => cases z0 with
    | none =>
    obtain ⟨h1, hk⟩ := h
    obtain ⟨a, us, n, rfl, p, hr⟩ := hu1
    refine tail_any (lst_is p.1).typeIs slot_list_getitem.lookup (wpAny_getItem_list_slice (lst_is p.1) hS p1 p2 p3 (by simp) ?_ (by simp only [List.size_toArray]; rw [hr.length, sizeLine_eq]; omega)) hops
    rw [slicePick_plain]
    simp only [List.size_toArray, List.toList_toArray]
    obtain ⟨R2, N2, S2⟩ := frozen_push (t := s.toks) (o := lstObj (cutOf us l0 h0) 0) R1 rfl
    refine q _ _ ρ _ _ R2 (N1.trans N2) (show VRep _ _ _ (.d (.list _)) _ from ⟨_, _, 0, rfl, S2, ?_⟩) hk
    exact (hr.cut).mono N2.still
    | some zz =>
    obtain ⟨h1, hne, hk⟩ := h
    obtain ⟨a, us, n, rfl, p, hr⟩ := hu1
    refine tail_any (lst_is p.1).typeIs slot_list_getitem.lookup (wpAny_getItem_list_slice (lst_is p.1) hS p1 p2 p3 (by intro e; cases e; exact hne rfl) ?_ (by simp only [List.size_toArray]; rw [hr.length, sizeLine_eq]; omega)) hops
    have e : ∀ zz, slicePick us.toArray l0 h0 zz = (pickL us l0 h0 zz).toArray := fun zz => by unfold slicePick pickL; simp
    rw [e]
    obtain ⟨R2, N2, S2⟩ := frozen_push (t := s.toks) (o := lstObj (pickL us l0 h0 (some _)) 0) R1 rfl
    refine q _ _ ρ _ _ R2 (N1.trans N2) (show VRep _ _ _ (.d (.list _)) _ from ⟨_, _, 0, rfl, S2, ?_⟩) hk
    exact (hr.pick).mono N2.still
   | str tx => cases z0 with
    | some _ => exact h.elim
    | none =>
    obtain ⟨h1, hk⟩ := h
    obtain ⟨t, rfl⟩ := hu1
    have hq3 : q3 = none := by cases q3 with | none => rfl | some _ => simp at m3
    subst hq3
    have hz0 : tx.length ≤ sizeLine := by rw [sizeLine_eq]; omega
    refine withT (tail_any (typeIs_str _ _ _) PySem.F.slot_str_getitem.lookup (wpAny_getItem_str_slice (l := q1) (u := q2) (st := none) ⟨_, Heap.get?_push_size _ rfl, rfl, rfl⟩ rfl ?_) hops)
    have fin : ∀ t' kk, s.toks ≤ kk → Q (.str (Txt.slice tx l0 h0) t') { s with heap := s.heap.push { cls := .type "slice", data := .fields #[partValue q1, partValue q2, partValue none] }, toks := kk } := fun t' kk ht => by
      rw [slice_text]
      exact q _ _ _ _ _ (R.grow (.heap (fun _ _ e => Heap.get?_push_of_some _ e) ht)) (Grow.heap (fun _ _ e => Heap.get?_push_of_some _ e) ht).nxt .str hk
    subst m1 m2
    exact post_val_or_str (Q := fun a s' => s.toks ≤ s'.toks → Q a s') (c := ((1 : Int) == 1 && (Builtin.Str.strSliceIndices (q1.map (·.1)) (q2.map (·.1)) 1 tx.length).length == tx.length) = true) (y := tx) ⟨Nat.le_trans (Txt.slice_le tx _ _) hz0, fin⟩
   | _ => exact h.elim
  | _ => exact h.elim
end


theorem star_toE {N : Nm} {env : Env} {rest : List Expr} (e : ME) : starEach (toE N e :: rest) env = (false, eval (toE N e) env) :: starEach rest env := by
  cases e <;> rfl
theorem star_plain {N : Nm} {env : Env} {p : Pos} : ∀ es : MEs, (backTo p (starEach (toEs N es) env)).any (·.1) = false
  | .nil => rfl
  | .cons e es => by
    show (backTo p (starEach (toE N e :: toEs N es) env)).any (·.1) = false
    rw [star_toE]
    show (false || (backTo p (starEach (toEs N es) env)).any (·.1)) = false
    rw [star_plain es]; rfl
theorem star_plain' {N : Nm} {env : Env} {p : Pos} (es : MEs) : (backTo p (starEach (toEs N es) env)).all (fun x => !x.1) = true := by
  have h := star_plain (N := N) (env := env) (p := p) es
  rw [List.any_eq_false] at h
  rw [List.all_eq_true]
  intro x hx
  have := h x hx
  cases hx1 : x.1 <;> simp_all

section
variable {M : Model} {A : Around} {E : Value → Shared → Prop} {s : Shared}
theorem evalArgs_go {f : Value} {args : List (Bool × Sem Value)} {kws : List (Option Str × Sem Value)} {Q : Args → Shared → Prop} (hp : args.all (fun x => !x.1) = true) (hk : kws.all (·.1.isSome) = true)
    (h : wpAny M A (spliced args) (fun vs s₁ => wpAny M A (evalAll (kws.map (·.2))) (fun ks s₂ => Q ⟨vs, (kws.filterMap (·.1)).zip ks⟩ s₂) E s₁) E s) : wpAny M A (evalArgs f true args kws) Q E s := by
  have fin : ∀ (vs : List Value) (s₁ : Shared), wpAny M A (evalAll (kws.map (·.2))) (fun ks s₂ => Q ⟨vs, (kws.filterMap (·.1)).zip ks⟩ s₂) E s₁ →
      wpAny M A (if kws.all (·.1.isSome) = true then (do
        let l ← evalAll (kws.map (·.2))
        let l2 ← (pure vs : Sem (List Value))
        pure (⟨l2, (kws.filterMap (·.1)).zip l⟩ : Args)) else (do
          let d ← mergedKeywords f kws
          let pos ← (pure vs : Sem (List Value))
          let l ← holding (.ref d :: pos) (keywordsIn f d)
          pure (⟨pos, l⟩ : Args))) Q E s₁ := fun vs s₁ h₁ => by
    rw [if_pos hk]
    exact wpAny_bind (wpAny_mono h₁ (fun ks s₂ h₂ => wpAny_bind (wpAny_pure (wpAny_pure h₂))) fun _ _ e => e)
  unfold evalArgs
  match args, hp, h with
  | [], _, h =>
    show wpAny M A (spliced [] >>= _) Q E s
    exact wpAny_bind (wpAny_mono h (fun vs s₁ h₁ => wpAny_holding (fin vs s₁ h₁)) fun _ _ e => e)
  | (true, x) :: rest, hp, _ => simp at hp
  | (false, x) :: rest, _, h =>
    show wpAny M A (spliced ((false, x) :: rest) >>= _) Q E s
    exact wpAny_bind (wpAny_mono h (fun vs s₁ h₁ => wpAny_holding (fin vs s₁ h₁)) fun _ _ e => e)
end

section
variable {c : Cx} {r : Nat} {fx : Fx} {vs : Vis} {st : St}

theorem getL_of {ns : List Str} {es : List DictEntry} {vs : List Value} (h : EntriesAre es ns vs) : ∀ {x : Str}, getL x es = some (match ns.findIdx? (fun n => n == x) with | some i => vs[i]? | none => none) := by
  obtain ⟨h1, h2⟩ := h
  subst h2
  induction es generalizing ns with
  | nil =>
    cases ns with
    | nil => intro x; rfl
    | cons a b => simp at h1
  | cons e es ih =>
    cases ns with
    | nil => simp at h1
    | cons a b =>
      intro x
      simp only [List.map_cons, List.cons.injEq] at h1
      have ih' := ih h1.2 (x := x)
      obtain ⟨hsh, key, val⟩ := e
      have hk : ∃ t, key = .str a t := by
        have := h1.1
        unfold keyName at this
        split at this
        · rename_i z t e; dsimp only at e; cases this; exact ⟨t, e⟩
        · cases this
      obtain ⟨t, rfl⟩ := hk
      unfold getL at ih' ⊢
      rw [List.find?_cons, List.findIdx?_cons]
      show (match (match a == x with | true => some _ | false => es.find? _) with | some e => _ | none => _) = _
      cases hax : a == x with
      | true => rfl
      | false =>
        simp only [Bool.false_eq_true, if_false] at *
        cases hf : es.find? (·.key.isStr x) with
        | some e' =>
          rw [hf] at ih'
          simp only [Option.some.injEq] at ih' ⊢
          cases hi : b.findIdx? (fun n => n == x) with
          | none => rw [hi] at ih'; simp at ih'
          | some i => rw [hi] at ih'; simpa using ih'
        | none =>
          rw [hf] at ih'
          have e2 : (({ hash := hsh, key := .str a t, val := val } : DictEntry) :: es).any (·.refKey) = es.any (·.refKey) := by simp [DictEntry.refKey]
          simp only [e2]
          cases hr : es.any (·.refKey) with
          | true => rw [hr] at ih'; simp at ih'
          | false =>
            rw [hr] at ih'
            simp only [Bool.false_eq_true, if_false, Option.some.injEq] at ih' ⊢
            cases hi : b.findIdx? (fun n => n == x) with
            | none => rfl
            | some i => rw [hi] at ih'; simpa using ih'

theorem handed_rep {C : Addr} {ρ : Rho} {P : ObjAt} {x : V} {v : Value} (h : VRep C ρ P x v) : handedIn v = true := by
  cases x with
  | d x => cases x with
    | none => cases h; rfl
    | bool b => cases h; rfl
    | int i => obtain ⟨t, rfl⟩ := h; rfl
    | str i => obtain ⟨t, rfl⟩ := h; rfl
    | list ds => obtain ⟨_, _, _, rfl, _⟩ := h; rfl
    | tup ds => obtain ⟨_, _, _, rfl, _⟩ := h; rfl
    | rng _ _ _ => obtain ⟨_, _, _, _, rfl, _⟩ := h; rfl
    | emp => obtain ⟨_, _, rfl, _⟩ := h; rfl
    | ws ds => obtain ⟨_, _, _, _, _, rfl, _⟩ := h; rfl
  | lst i => obtain ⟨_, _, rfl⟩ := h; rfl
  | inst i => obtain ⟨_, _, rfl⟩ := h; rfl
  | stat a => cases h; rfl
  | ty T => cases h; rfl
  | pat n a => cases h; rfl

theorem findIdx_names (O : Ok c) {ns : List Nat} (h : ∀ i ∈ ns, i < 6) {i : Nat} (hi : i < 6) : (ns.map c.an).findIdx? (fun n => n == c.an i) = ns.findIdx? (fun n => n == i) := by
  induction ns with
  | nil => rfl
  | cons a b ih =>
    rw [List.map_cons, List.findIdx?_cons, List.findIdx?_cons, ih fun j hj => h j (List.mem_cons_of_mem _ hj)]
    have e : (c.an a == c.an i) = (a == i) := by
      by_cases q : a = i
      · subst q; simp
      · have : c.an a ≠ c.an i := fun z => q (O.an a i (h a List.mem_cons_self) hi z)
        rw [beq_eq_false_iff_ne.mpr this, beq_eq_false_iff_ne.mpr q]
    rw [e]

theorem lookup_zip {α β : Type} [BEq α] [LawfulBEq α] : ∀ {ns : List α} {vs : List β} {i : α} {v : β}, (ns.zip vs).lookup i = some v → ∃ j, ns.findIdx? (fun n => n == i) = some j ∧ vs[j]? = some v
  | [], _, _, _, h => by simp at h
  | _ :: _, [], _, _, h => by simp at h
  | a :: ns, b :: vs, i, v, h => by
    rw [List.zip_cons_cons, List.lookup_cons] at h
    rw [List.findIdx?_cons]
    by_cases e : a = i
    · subst e
      simp at h; subst h
      exact ⟨0, by simp, rfl⟩
    · have e1 : (i == a) = false := beq_eq_false_iff_ne.mpr (Ne.symm e)
      have e2 : (a == i) = false := beq_eq_false_iff_ne.mpr e
      rw [e1] at h
      obtain ⟨j, h1, h2⟩ := lookup_zip h
      exact ⟨j + 1, by rw [e2, h1]; rfl, by simpa using h2⟩

theorem attS_snd (O : Ok c) {x : V} {ai : Nat} {k : KV} (h : attS x ai st k) : TO c fx (fun vs => getAttr (vs.getD 0 .none) (c.an ai) true) [x] st k := by
  intro ρ s Q E vals R hv q
  obtain ⟨u, rfl, hu⟩ := hv.one
  show wpAny _ _ (getAttr u (c.an ai) true) Q E s
  have X : c.K.In s.heap := fun a o e => R.rel.base a o (O.In a o e)
  unfold attS at h
  split at h
  · rename_i ds
    obtain ⟨d, h1, hk⟩ := h
    obtain ⟨x, dx, es, n, vs, rfl, p1, p2, he, hr⟩ := hu
    obtain ⟨v, hv1, hv2⟩ := hr.get h1
    have hai : ai < 5 := by
      have h3 := (List.getElem?_eq_some_iff.mp h1).1
      have h4 := hr.length
      have h5 : es.length = 5 := by
        have := congrArg List.length he.1
        simpa [wsNames] using this
      have h6 : vs.length = 5 := by rw [← he.2]; simpa using h5
      omega
    obtain ⟨g1, g2, g3, g4, g5⟩ := O.inst _ O.wsC
    have hl : getL (c.an ai) es = some (some v) := by
      rw [getL_of he, O.ws, findIdx_names O (fun i hi => by simp at hi; omega) (by omega)]
      have : (List.range 5).findIdx? (fun n => n == ai) = some ai := by
        have : ai = 0 ∨ ai = 1 ∨ ai = 2 ∨ ai = 3 ∨ ai = 4 := by omega
        rcases this with rfl | rfl | rfl | rfl | rfl <;> rfl
      rw [this]; exact congrArg some hv1
    refine get_value X (od := some (dictOf es n)) ⟨p1.1, rfl, rfl, p2.1⟩ (plainGet_of g1).1 (findObj_own g2 (g5 ai (by omega)).1 rfl hl) (handed_rep (ρ := ρ) (.tree hv2)) ?_
    exact q _ _ _ _ _ (R.grow .tk) (Grow.nxt .tk) (.tree hv2) hk
  · rename_i i
    split at h
    · rename_i C ns xs e
      obtain ⟨h1, h2, v, h3, hk⟩ := h
      obtain ⟨p, hp, rfl⟩ := hu
      obtain ⟨hC, h6, hne, es, n, vs, e1, e2, he, hsz, hr⟩ := R.rel.objs _ _ _ hp e
      obtain ⟨j, h4, h5⟩ := lookup_zip h3
      obtain ⟨val, h8, h7⟩ := hr.get h5
      obtain ⟨g1, g2, g3, g4, g5⟩ := O.inst _ hC
      have hl : getL (c.an ai) es = some (some val) := by
        rw [getL_of he, findIdx_names O h1 h2, h4]; exact congrArg some h8
      refine get_value X (od := some (dictOf es n)) ⟨e1, rfl, rfl, e2⟩ (plainGet_of g1).1 (findObj_own g2 (g5 ai h2).1 rfl hl) (handed_rep h7) ?_
      exact q _ _ _ _ _ (R.grow .tk) (Grow.nxt .tk) h7 hk
    · exact h.elim
  · exact h.elim
end


section
variable {c : Cx} {r : Nat} {fx : Fx} {vs : Vis} {st : St}

theorem RelF.called {ρ ρ' : Rho} {s s' : Shared} {σ' : List MObj} (R : RelF c fx ρ st s) (R' : Rel c (fx.own ++ fx.av) ρ' σ' s') (N : Nxt [] ρ s ρ' s') : RelF c fx ρ' ⟨σ', st.loc⟩ s' := by
  have keep : ∀ a ∈ fx.own, ∀ o, s.heap.get? a = some o → s'.heap.get? a = some o := fun a ha o e => N.keep a o (R.rel.not_own ha) (by simp) e
  refine { rel := R', ns := ?_, lown := R.lown, slots := ?_, stos := R.stos, alive := ?_, nss := ?_ }
  · obtain ⟨m, hn⟩ := R.ns
    exact ⟨m, hn.at' fun o e => keep _ R.lown o e⟩
  · intro i v e
    obtain ⟨S, val, h1, h2, h3⟩ := R.slots i v e
    exact ⟨S, val, h1, h2.keeps fun o e => keep _ (R.stos i S h1) o e, h3.nxt (N.more (own' := fx.own) (by simp))⟩
  · intro i S e h
    obtain ⟨o, v, h1, h2⟩ := R.alive i S e h
    exact ⟨o, v, keep _ (R.stos i S e) o h1, h2⟩
  · intro i S e h
    obtain ⟨m, h1⟩ := R.nss i S e h
    exact ⟨m, h1.at' fun o z => keep _ (R.stos i S e) o z⟩

theorem K_in (O : Ok c) {ρ : Rho} {s : Shared} (R : RelF c fx ρ st s) : c.K.In s.heap := fun a o e => R.rel.base a o (O.In a o e)

theorem TC_use {f : Addr} {xs : List V} {kw : Option Bool} {k : V → List MObj → Prop} (ok : FxOk c r fx vs) (h : TC c r f xs kw st.σ k) {ρ : Rho} {s : Shared} {Q E : Value → Shared → Prop} {vals : List Value}
    (R : RelF c fx ρ st s) (hv : VReps c.C ρ (Still s.heap (fx.mv ρ)) xs vals)
    (q : ∀ v st' ρ' val s', RelF c fx ρ' st' s' → Nxt fx.own ρ s ρ' s' → VRep c.C ρ' (Still s'.heap (fx.mv ρ')) v val → (∃ σ', st' = ⟨σ', st.loc⟩ ∧ k v σ') → Q val s') :
    wpAny (model c.prog c.w) fx.A (call (.ref f) vals (kwV c kw)) Q E s :=
  h fx.A (fx.own ++ fx.av) ρ s Q E vals ok.room R.rel hv fun v σ' ρ' val s' R' N r' hk => q v ⟨σ', st.loc⟩ ρ' val s' (R.called R' N) (N.more (by simp)) r' ⟨σ', rfl, hk⟩

/-- a call of a global def or class, arguments in their places -/
theorem TE_fn (O : Ok c) (ok : FxOk c r fx vs) {N : Nm} {gi : Nat} {x : Str} {f : Addr} {es : MEs} {p q : Pos} {k : KV} (hi : gi ∈ vs.globs) (hg : c.g gi = some (x, .stat f))
    (h : TEs c fx (spliced (backTo q (starEach (toEs N es) fx.env))) st fun xs st1 => TC c r f xs none st1.σ fun v σ => k v ⟨σ, st1.loc⟩) : TE c fx (eval (.Call (.Name x p) (toEs N es) [] q) fx.env) st k := by
  intro ρ s Q E R z
  refine Call_ (load_glob O ok R hi hg fun val hval => ?_)
  cases hval
  refine callWith_of (P := c.K.In) (by rw [star_plain]; rfl) (keeps_K (O.keeps gi x f hg)) ?_
  refine evalArgs_go (star_plain' es) rfl ?_
  refine h ρ s _ _ R fun xs st1 ρ1 vals s1 R1 N1 r1 h1 => wpAny_pure ⟨K_in O R1, ?_⟩
  exact TC_use (kw := none) ok h1 R1 r1 fun v st' ρ' val s' R' N' r' hk => by
    obtain ⟨σ', rfl, hk⟩ := hk
    exact z _ _ _ _ _ R' (N1.trans N') r' hk

theorem attrBase {M : Model} {A : Around} {E : Value → Shared → Prop} {s : Shared} {Q : Value → Shared → Prop} {N : Nm} {env : Env} {x : Str} (hs : ∀ i, (N.gl i == ("super" : Str)) = false) (o : ME) (t : Sem Value) (h : wpAny M A t Q E s) :
    wpAny M A (attributeBase (toE N o) x env t) Q E s := by
  cases o with
  | call ck g args p q =>
    cases args with
    | nil =>
      unfold attributeBase
      dsimp only [toE, toEs]
      have : (N.gl g != ("super" : Str)) = true := by rw [bne, hs g]; rfl
      simp only [this, Bool.true_or, if_true]
      exact h
    | cons e es => exact h
  | meth mk o args kw p q => exact h
  | lzip gl gz a b p1 p2 p3 p4 => exact h
  | _ => exact h

theorem attr_any {prog : Program} {w : World} {A : Around} {E : Value → Shared → Prop} {s : Shared} {env : Env} {value : Expr} {attr : Str} {pos : Pos} {Q : Value → Shared → Prop}
    (hb : ∀ Q' : Value → Shared → Prop, wpAny (model prog w) A (eval value env) Q' E s → wpAny (model prog w) A (attributeBase value attr env (eval value env)) Q' E s)
    (h : wpAny (model prog w) A (eval value env) (fun o s₁ => wpAny (model prog w) A (getAttr o attr true) Q E s₁) E s) :
    wpAny (model prog w) A (eval (.Attribute value attr pos) env) Q E s := by
  show wpAny (model prog w) A (do
      let o ← attributeBase value attr env (eval value env)
      standAt pos.atName
      let r ← holding [o] (getAttr o attr true)
      letTemporaryGo value o r
      pure r) Q E s
  refine wpAny_bind (wpAny_mono (hb _ h) (fun o s₁ h₁ => wpAny_bind (wpAny_standAt (wpAny_bind (wpAny_holding (wpAny_mono h₁ (fun r s₂ h₂ => ?_) fun _ _ x => x))))) fun _ _ x => x)
  exact wpAny_bind (wpAny_letTemporaryGo (wpAny_pure h₂))

/-- a method's call, as far as the method is found -/
theorem method_call {M : Model} {A : Around} {E : Value → Shared → Prop} {s : Shared} {env : Env} {o : Expr} {name : Str} {apos pos : Pos} {args : List Expr} {kws : List Keyword} {Q : Value → Shared → Prop}
    (hb : ∀ Q' : Value → Shared → Prop, wpAny M A (eval o env) Q' E s → wpAny M A (attributeBase o name env (eval o env)) Q' E s) (hf : methodCallForm (args.length + kws.length) (backTo pos (starEach args env)) (backToKw pos (keywordEach kws env)) = true) (hl : (apos.endLine == pos.line) = true)
    (h : wpAny M A (eval o env) (fun ov s₁ => wpAny M A (getMethod ov name (do return (← importBound o env).getD true)) (fun fx s₂ => wpAny M A (callWith pos fx.1 fx.2 (backTo pos (starEach args env)) (backToKw pos (keywordEach kws env))) Q E s₂) E s₁) E s) :
    wpAny M A (eval (.Call (.Attribute o name apos) args kws pos) env) Q E s := by
  show wpAny M A (do
    let ov ← attributeBase o name env (eval o env)
    standAt apos.atName
    methodCall o name apos pos env ov (args.length + kws.length) (backTo pos (starEach args env)) (backToKw pos (keywordEach kws env))) Q E s
  refine wpAny_bind (wpAny_mono (hb _ h) (fun ov s₁ h₁ => wpAny_bind (wpAny_standAt ?_)) fun _ _ e => e)
  unfold methodCall
  rw [hf]
  have e1 : calleeOf true o env ov name = getMethod ov name (do return (← importBound o env).getD true) := rfl
  rw [e1]
  refine wpAny_bind (wpAny_holding (wpAny_mono h₁ (fun fx s₂ h₂ => ?_) fun _ _ e => e))
  obtain ⟨f, first⟩ := fx
  have e2 : methodCallPos true o env apos pos = pure pos := by unfold methodCallPos; rw [hl]; rfl
  dsimp only
  rw [e2]
  exact wpAny_bind (wpAny_pure h₂)
noncomputable def kwE (N : Nm) (kw : Option (Bool × Nat × Pos × Pos)) : List Keyword := match kw with | none => [] | some (b, k, cp, kp) => [⟨some N.c.kwn, .Constant (.bool b) k cp, kp⟩]

theorem form_ok {N : Nm} {env : Env} {q : Pos} (es : MEs) (kw : Option (Bool × Nat × Pos × Pos)) (h : (toEs N es).length ≤ 20) : methodCallForm ((toEs N es).length + (kwE N kw).length) (backTo q (starEach (toEs N es) env)) (backToKw q (keywordEach (kwE N kw) env)) = true := by
  unfold methodCallForm
  have h1 : (backTo q (starEach (toEs N es) env)).all (fun x => !x.1) = true := star_plain' es
  rw [h1, Bool.true_and]
  cases kw with
  | none => exact decide_eq_true (show (toEs N es).length + 0 + 0 < 30 by omega)
  | some x => exact decide_eq_true (show (toEs N es).length + 1 + 1 < 30 by omega)

theorem inst_at (O : Ok c) {ρ : Rho} {s : Shared} (R : RelF c fx ρ st s) {y : V} {u : Value} {C : Addr} (hu : VRep c.C ρ (Still s.heap (fx.mv ρ)) y u) (hc : clsOf c st y = some C) {x : Str} (hx : ∀ i < 6, c.an i ≠ x) :
    ∃ a dx es n, u = .ref a ∧ InstAt s.heap a (instObj C dx) C (some (dictOf es n)) ∧ getL x es = some none ∧ C ∈ c.cls := by
  unfold clsOf at hc
  split at hc
  · rename_i ds
    cases hc
    obtain ⟨a, dx, es, n, vs, rfl, p1, p2, he, hr⟩ := hu
    refine ⟨a, dx, es, n, rfl, ⟨p1.1, rfl, rfl, p2.1⟩, ?_, O.wsC⟩
    rw [getL_of he, O.ws]
    have : ((List.range 5).map c.an).findIdx? (fun n => n == x) = none := by
      rw [List.findIdx?_eq_none_iff]
      intro y hy
      obtain ⟨i, hi, rfl⟩ := List.mem_map.mp hy
      exact beq_eq_false_iff_ne.mpr (hx i (by simp at hi; omega))
    rw [this]
  · rename_i i
    split at hc
    · rename_i C' ns vs e
      cases hc
      obtain ⟨p, hp, rfl⟩ := hu
      obtain ⟨hC, h6, hne, es, n, us, e1, e2, he, hsz, hr⟩ := R.rel.objs _ _ _ hp e
      refine ⟨p.1, p.2, es, n, rfl, ⟨e1, rfl, rfl, e2⟩, ?_, hC⟩
      rw [getL_of he]
      have : (ns.map c.an).findIdx? (fun n => n == x) = none := by
        rw [List.findIdx?_eq_none_iff]
        intro y hy
        obtain ⟨i, hi, rfl⟩ := List.mem_map.mp hy
        exact beq_eq_false_iff_ne.mpr (hx i (h6 i hi))
      rw [this]
    · cases hc
  · cases hc

theorem evalAll_kw {N : Nm} {env : Env} {M : Model} {A : Around} {E : Value → Shared → Prop} {s : Shared} {q : Pos} {Q : List Value → Shared → Prop} (kw : Option (Bool × Nat × Pos × Pos)) (h : Q ((kw.map fun x => Value.bool x.1).toList) s) :
    wpAny M A (evalAll ((backToKw q (keywordEach (kwE N kw) env)).map (·.2))) Q E s := by
  cases kw with
  | none => exact wpAny_pure h
  | some x =>
    obtain ⟨b, k, cp, kp⟩ := x
    exact fun _ _ _ => h
/-- a method of one of the text's classes -/
theorem TE_meth (O : Ok c) (ok : FxOk c r fx vs) {N : Nm} (hN : N.c = c) (hsup : ∀ i, (N.gl i == ("super" : Str)) = false) {mi : Nat} {C : Addr} {x : Str} {f : Addr} {o : ME} {es : MEs} {kw : Option (Bool × Nat × Pos × Pos)} {p q : Pos} {k : KV}
    (hm : c.ms mi = some (C, x, f)) (hl : (p.endLine == q.line) = true) (hes : (toEs N es).length ≤ 20)
    (h : TE c fx (eval (toE N o) fx.env) st fun y st1 => clsOf c st1 y = some C ∧ TEs c fx (spliced (backTo q (starEach (toEs N es) fx.env))) st1 fun xs st2 =>
      TC c r f (y :: xs) (kw.map (·.1)) st2.σ fun v σ => k v ⟨σ, st2.loc⟩) :
    TE c fx (eval (.Call (.Attribute (toE N o) x p) (toEs N es) (kwE N kw) q) fx.env) st k := by
  intro ρ s Q E R z
  obtain ⟨m1, m2, m3, m4, m5, m6⟩ := O.ms mi C x f hm
  refine method_call (fun Q' hq => attrBase hsup o _ hq) (form_ok es kw hes) hl (h ρ s _ _ R fun y st1 ρ1 u s1 R1 N1 r1 h1 => ?_)
  obtain ⟨a, dx, ds, n, rfl, I, hg, hC⟩ := inst_at O R1 r1 h1.1 m6
  refine method_fn (K_in O R1) I (plainGet_of m1).1 (plainGet_of m1).2 m2 (beq_iff_eq.mp m3) (by show (lookIn x (dictOf ds n)).map _ = _; rw [lookIn_dict, hg]; rfl) ?_
  refine callWith_of (P := c.K.In) ?_ (keeps_K m4) ?_
  · rw [star_plain]; cases kw <;> rfl
  refine evalArgs_go (star_plain' es) (by cases kw <;> rfl) ?_
  refine h1.2 ρ1 s1 _ _ R1 fun xs st2 ρ2 vals s2 R2 N2 r2 h2 => evalAll_kw kw ⟨K_in O R2, ?_⟩
  have e : ((backToKw q (keywordEach (kwE N kw) fx.env)).filterMap (·.1)).zip (kw.map fun x => Value.bool x.1).toList = kwV c (kw.map (·.1)) := by
    cases kw with
    | none => rfl
    | some x => rw [← hN]; rfl
  show wpAny _ _ (call (.ref f) (.ref a :: vals) (((backToKw q (keywordEach (kwE N kw) fx.env)).filterMap (·.1)).zip (kw.map fun x => Value.bool x.1).toList)) Q E s2
  rw [e]
  exact TC_use ok h2 R2 (.cons (r1.nxt N2) r2) fun v st' ρ' val s' R' N' r' hk => by
    obtain ⟨σ', rfl, hk⟩ := hk
    exact z _ _ _ _ _ R' (N1.trans (N2.trans N')) r' hk
end

/-! sorted, of four tuples of three numbers -/
theorem lt3_iff {x y : T3} : lt3 x y = true ↔ (x.1 < y.1 ∨ (x.1 = y.1 ∧ (x.2.1 < y.2.1 ∨ (x.2.1 = y.2.1 ∧ x.2.2 < y.2.2)))) := by
  simp [lt3]
theorem lex_trans {a b e : Int} {P Q R : Prop} (h : P → Q → R) : (a < b ∨ a = b ∧ P) → (b < e ∨ b = e ∧ Q) → (a < e ∨ a = e ∧ R)
  | .inl x, .inl y => .inl (Int.lt_trans x y)
  | .inl x, .inr y => .inl (y.1 ▸ x)
  | .inr x, .inl y => .inl (x.1 ▸ y)
  | .inr x, .inr y => .inr ⟨x.1.trans y.1, h x.2 y.2⟩
theorem lex_weak {x y z : Int} {P Q R : Prop} (h : P → ¬ Q → R) (h1 : z < y ∨ z = y ∧ P) (h2 : ¬ (x < y ∨ x = y ∧ Q)) : z < x ∨ z = x ∧ R := by
  have a : y ≤ x := Int.not_lt.mp fun e => h2 (.inl e)
  rcases h1 with h1 | ⟨rfl, p⟩
  · exact .inl (Int.lt_of_lt_of_le h1 a)
  · rcases Int.lt_or_eq_of_le a with b | rfl
    · exact .inl b
    · exact .inr ⟨rfl, h p fun q => h2 (.inr ⟨rfl, q⟩)⟩
theorem lt3_trans {x y z : T3} (h1 : lt3 x y = true) (h2 : lt3 y z = true) : lt3 x z = true := by
  rw [lt3_iff] at *; exact lex_trans (lex_trans Int.lt_trans) h1 h2
theorem lt3_irr {x : T3} : lt3 x x = false := by
  cases e : lt3 x x with
  | false => rfl
  | true => rw [lt3_iff] at e; omega
theorem lt3_weak {x y z : T3} (h1 : lt3 z y = true) (h2 : lt3 x y = false) : lt3 z x = true := by
  rw [lt3_iff] at h1 ⊢
  exact lex_weak (fun p q => lex_weak (fun p q => Int.lt_of_lt_of_le p (Int.not_lt.mp q)) p q) h1 fun e => by rw [lt3_iff.mpr e] at h2; cases h2

/-- how many are less -/
noncomputable def rk (l : List T3) (x : T3) : Nat := l.countP fun y => lt3 y x
theorem rk_le {x y : T3} (h : lt3 x y = false) (l : List T3) : rk l y ≤ rk l x := List.countP_mono_left fun z _ e => lt3_weak e h
theorem rk_lt {x y : T3} (h : lt3 x y = true) : ∀ {l : List T3}, x ∈ l → rk l x < rk l y
  | z :: l, hx => by
    have m : rk l x ≤ rk l y := List.countP_mono_left fun z _ e => lt3_trans e h
    unfold rk at *
    rw [List.countP_cons, List.countP_cons]
    rcases List.mem_cons.mp hx with rfl | hx
    · rw [h, lt3_irr]; simp; omega
    · have ih := rk_lt h hx
      unfold rk at ih
      cases e : lt3 z x with
      | true => rw [lt3_trans e h]; simp; omega
      | false => cases lt3 z y <;> simp <;> omega
theorem rk_dec {l : List T3} {x y : T3} (hx : x ∈ l) : lt3 x y = decide (rk l x < rk l y) := by
  cases e : lt3 x y with
  | true => exact (decide_eq_true (rk_lt e hx)).symm
  | false => exact (decide_eq_false (Nat.not_lt.mpr (rk_le e l))).symm

noncomputable def runT {α : Type} (f : Nat → Nat → Bool) : KasT α → α
  | .ret a => a
  | .ask i j k => runT f (k (f i j))
noncomputable def inT {α : Type} (f : Nat → Nat → Bool) : KasT α → Bool
  | .ret _ => true
  | .ask i j k => Nat.blt i 4 && (Nat.blt j 4 && inT f (k (f i j)))
theorem run_congr {α : Type} {f g : Nat → Nat → Bool} (h : ∀ i j, i < 4 → j < 4 → f i j = g i j) : ∀ t : KasT α, inT g t = true → inT f t = true ∧ runT f t = runT g t
  | .ret a, _ => ⟨rfl, rfl⟩
  | .ask i j k, e => by
    have e : (Nat.blt i 4 && (Nat.blt j 4 && inT g (k (g i j)))) = true := e
    simp only [Bool.and_eq_true] at e
    have hi : i < 4 := by simpa [Nat.blt_eq] using e.1
    have hj : j < 4 := by simpa [Nat.blt_eq] using e.2.1
    have := run_congr h (k (g i j)) e.2.2
    have hf := h i j hi hj
    refine ⟨?_, ?_⟩
    · show (Nat.blt i 4 && (Nat.blt j 4 && inT f (k (f i j)))) = true
      rw [hf, e.1, e.2.1, this.1]; rfl
    · show runT f (k (f i j)) = runT g (k (g i j))
      rw [hf]; exact this.2
theorem kasWp_run {α : Type} {cmp : Nat → Nat → (Bool → Shared → Prop) → Shared → Prop} {f : Nat → Nat → Bool} {s : Shared} {Q : α → Shared → Prop} (hc : ∀ i j C, i < 4 → j < 4 → C (f i j) s → cmp i j C s) : ∀ t : KasT α, inT f t = true → Q (runT f t) s → t.kasWp cmp Q s
  | .ret a, _, h => h
  | .ask i j k, e, h => by
    have e : (Nat.blt i 4 && (Nat.blt j 4 && inT f (k (f i j)))) = true := e
    simp only [Bool.and_eq_true] at e
    exact hc i j _ (by simpa [Nat.blt_eq] using e.1) (by simpa [Nat.blt_eq] using e.2.1) (kasWp_run hc _ e.2.2 h)

noncomputable def rankF (a b c d : Nat) (i j : Nat) : Bool := Nat.blt ([a, b, c, d].getD i 0) ([a, b, c, d].getD j 0)
/-- the sorting net, asked by ranks -/
noncomputable def goodRun (a b c d : Nat) : Bool := inT (rankF a b c d) (kas_sort 4) && (perms4.contains (runT (rankF a b c d) (kas_sort 4)).toList && (match (runT (rankF a b c d) (kas_sort 4)).toList with
  | [w, x, y, z] => !rankF a b c d x w && (!rankF a b c d y x && !rankF a b c d z y)
  | _ => false))
noncomputable def r4 : List Nat := [0, 1, 2, 3]
theorem runs_all : (r4.all fun a => r4.all fun b => r4.all fun c => r4.all fun d => goodRun a b c d) = true := by decide +kernel
theorem runs_at {a b c d : Nat} (ha : a < 4) (hb : b < 4) (hc : c < 4) (hd : d < 4) : goodRun a b c d = true := by
  have m : ∀ {x : Nat}, x < 4 → x ∈ r4 := fun {x} h => by unfold r4; simp; omega
  have h := runs_all
  simp only [List.all_eq_true] at h
  exact h a (m ha) b (m hb) c (m hc) d (m hd)
theorem rk_four {l : List T3} (h : l.length = 4) {x : T3} (hx : x ∈ l) : rk l x < 4 := by
  have : rk l x < l.length := by
    unfold rk
    rcases Nat.lt_or_ge (l.countP fun y => lt3 y x) l.length with h | h
    · exact h
    · have := List.countP_eq_length.mp (Nat.le_antisymm List.countP_le_length h) x hx
      rw [lt3_irr] at this; cases this
  omega

theorem le3_trans {x y z : T3} (h1 : le3 x y) (h2 : le3 y z) : le3 x z := by
  unfold le3 at *
  cases e : lt3 z x with
  | false => rfl
  | true => have := lt3_weak (x := y) e h1; rw [h2] at this; cases this

/-- what the net gives, of four -/
theorem net_four {t0 t1 t2 t3 : T3} : ∃ p, inT (fun i j => lt3 ([t0, t1, t2, t3].getD i (0, 0, 0)) ([t0, t1, t2, t3].getD j (0, 0, 0))) (kas_sort 4) = true ∧
    (runT (fun i j => lt3 ([t0, t1, t2, t3].getD i (0, 0, 0)) ([t0, t1, t2, t3].getD j (0, 0, 0))) (kas_sort 4)).toList = p ∧ p ∈ perms4 ∧ (p.map fun i => [t0, t1, t2, t3].getD i (0, 0, 0)).Pairwise le3 := by
  have M : ∀ i, i < 4 → [t0, t1, t2, t3].getD i (0, 0, 0) ∈ [t0, t1, t2, t3] := fun i hi => by
    have : i = 0 ∨ i = 1 ∨ i = 2 ∨ i = 3 := by omega
    rcases this with rfl | rfl | rfl | rfl <;> simp
  have hg : ∀ i j, i < 4 → j < 4 → lt3 ([t0, t1, t2, t3].getD i (0, 0, 0)) ([t0, t1, t2, t3].getD j (0, 0, 0)) = rankF (rk [t0, t1, t2, t3] t0) (rk [t0, t1, t2, t3] t1) (rk [t0, t1, t2, t3] t2) (rk [t0, t1, t2, t3] t3) i j := fun i j hi hj => by
    rw [rk_dec (M i hi)]
    have e : ∀ i, i < 4 → [rk [t0, t1, t2, t3] t0, rk [t0, t1, t2, t3] t1, rk [t0, t1, t2, t3] t2, rk [t0, t1, t2, t3] t3].getD i 0 = rk [t0, t1, t2, t3] ([t0, t1, t2, t3].getD i (0, 0, 0)) := fun i hi => by
      have : i = 0 ∨ i = 1 ∨ i = 2 ∨ i = 3 := by omega
      rcases this with rfl | rfl | rfl | rfl <;> rfl
    unfold rankF
    rw [e i hi, e j hj]
    cases q : Nat.blt (rk [t0, t1, t2, t3] ([t0, t1, t2, t3].getD i (0, 0, 0))) (rk [t0, t1, t2, t3] ([t0, t1, t2, t3].getD j (0, 0, 0))) with
    | true => exact decide_eq_true (by simpa [Nat.blt_eq] using q)
    | false => exact decide_eq_false fun h => by rw [Nat.blt_eq.mpr h] at q; cases q
  have G := runs_at (rk_four (l := [t0, t1, t2, t3]) rfl (x := t0) (by simp)) (rk_four (l := [t0, t1, t2, t3]) rfl (x := t1) (by simp)) (rk_four (l := [t0, t1, t2, t3]) rfl (x := t2) (by simp)) (rk_four (l := [t0, t1, t2, t3]) rfl (x := t3) (by simp))
  unfold goodRun at G
  have G := Bool.and_eq_true_iff.mp G
  have G2 := Bool.and_eq_true_iff.mp G.2
  obtain ⟨c1, c2⟩ := run_congr hg (kas_sort 4) G.1
  refine ⟨_, c1, rfl, ?_, ?_⟩
  · rw [c2]; exact List.contains_iff_mem.mp G2.1
  · rw [c2]
    have G3 := G2.2
    have mem := List.contains_iff_mem.mp G2.1
    generalize (runT (rankF (rk [t0, t1, t2, t3] t0) (rk [t0, t1, t2, t3] t1) (rk [t0, t1, t2, t3] t2) (rk [t0, t1, t2, t3] t3)) (kas_sort 4)).toList = p at G3 mem
    have lt4 : ∀ p ∈ perms4, ∀ i ∈ p, i < 4 := by decide
    match p, G3, mem with
    | [a, b, c, d], G3, mem =>
      have l := lt4 _ mem
      have la := l a (by simp)
      have lb := l b (by simp)
      have lc := l c (by simp)
      have ld := l d (by simp)
      simp only [Bool.and_eq_true, Bool.not_eq_true'] at G3
      rw [← hg b a lb la, ← hg c b lc lb, ← hg d c ld lc] at G3
      obtain ⟨x1, x2, x3⟩ := G3
      have y1 : le3 _ _ := x1
      have y2 : le3 _ _ := x2
      have y3 : le3 _ _ := x3
      show [_, _, _, _].Pairwise le3
      refine List.pairwise_cons.mpr ⟨?_, List.pairwise_cons.mpr ⟨?_, List.pairwise_cons.mpr ⟨?_, List.pairwise_singleton ..⟩⟩⟩
      · intro z hz
        rcases List.mem_cons.mp hz with rfl | hz
        · exact y1
        · rcases List.mem_cons.mp hz with rfl | hz
          · exact le3_trans y1 y2
          · rw [List.mem_singleton.mp hz]; exact le3_trans (le3_trans y1 y2) y3
      · intro z hz
        rcases List.mem_cons.mp hz with rfl | hz
        · exact y2
        · rw [List.mem_singleton.mp hz]; exact le3_trans y2 y3
      · intro z hz
        rw [List.mem_singleton.mp hz]; exact y3
    | [], G3, _ => cases G3
    | [_], G3, _ => cases G3
    | [_, _], G3, _ => cases G3
    | [_, _, _], G3, _ => cases G3
    | _ :: _ :: _ :: _ :: _ :: _, G3, _ => cases G3

set_option maxRecDepth 100000
noncomputable def Tup3 (h : Heap) (v : Value) (t : T3) : Prop := ∃ a n k1 k2 k3, v = .ref a ∧ h.get? a = some (tupObj [.int t.1 k1, .int t.2.1 k2, .int t.2.2 k3] n)
theorem Tup3.keep {h h' : Heap} (k : ∀ b o, h.get? b = some o → h'.get? b = some o) {v : Value} {t : T3} (x : Tup3 h v t) : Tup3 h' v t := by
  obtain ⟨a, n, k1, k2, k3, e, o⟩ := x
  exact ⟨a, n, k1, k2, k3, e, k _ _ o⟩
section
variable {prog : Program} {w : World} {A : Around} {E : Value → Shared → Prop} {s : Shared}
theorem lex3 {x y : T3} {a1 a2 a3 b1 b2 b3 : Tok} {Q : Bool → Shared → Prop} (h : Q (lt3 x y) s) :
    KatLex prog w A true false Q [(.int x.1 a1, .int y.1 b1), (.int x.2.1 a2, .int y.2.1 b2), (.int x.2.2 a3, .int y.2.2 b3)] 0 s := by
  refine kat_cons (wpAny_eqBool_int (kat_go (fun e => kat_yes (kat_cons (wpAny_eqBool_int (kat_go (fun e2 => kat_yes (kat_cons (wpAny_eqBool_int (kat_go (fun e3 => kat_yes (kat_nil ?_)) (fun e3 => kat_no ?_))))) (fun e2 => kat_no ?_))))) (fun e => kat_no (oneLt_int ?_))))
  · have e := eq_of_beq e; have e2 := eq_of_beq e2; have e3 := eq_of_beq e3
    have : lt3 x y = false := by
      cases q : lt3 x y with
      | false => rfl
      | true => rw [lt3_iff] at q; omega
    rw [← this]; exact h
  · have e := eq_of_beq e; have e2 := eq_of_beq e2
    show wpAny _ _ (oneLt' false _ _) _ _ _
    refine kat_one _ _ (lt_int ?_)
    show Q _ s
    have : lt3 x y = decide (x.2.2 < y.2.2) := by unfold lt3; simp [e, e2]
    rw [← this]; exact h
  · have e := eq_of_beq e
    have e2 : x.2.1 ≠ y.2.1 := by simpa using e2
    show wpAny _ _ (oneLt' false _ _) _ _ _
    refine kat_one _ _ (lt_int ?_)
    show Q _ s
    have : lt3 x y = decide (x.2.1 < y.2.1) := by unfold lt3; simp [e, e2]
    rw [← this]; exact h
  · have e : x.1 ≠ y.1 := by simpa using e
    have : lt3 x y = decide (x.1 < y.1) := by unfold lt3; simp [e]
    rw [← this]; exact h
theorem cmp3 {u v : Value} {x y : T3} (hu : Tup3 s.heap u x) (hv : Tup3 s.heap v y) {Q : Bool → Shared → Prop} (h : Q (lt3 x y) s) : wpAny (model prog w) A (keyLt' (tuples' true) u v) Q E s := by
  obtain ⟨a, n, k1, k2, k3, rfl, ha⟩ := hu
  obtain ⟨b, m, l1, l2, l3, rfl, hb⟩ := hv
  exact kat_lt ha rfl hb rfl (lex3 h)

theorem list_sort_four {a : Addr} {v0 v1 v2 v3 : Value} {t0 t1 t2 t3 : T3} {n : Nat} {P : PySem.Fin → Shared → Prop} (ho : s.heap.get? a = some (seqObj "list" [v0, v1, v2, v3].toArray n))
    (h0 : Tup3 s.heap v0 t0) (h1 : Tup3 s.heap v1 t1) (h2 : Tup3 s.heap v2 t2) (h3 : Tup3 s.heap v3 t3)
    (h : ∀ p ∈ perms4, (p.map fun i => [t0, t1, t2, t3].getD i (0, 0, 0)).Pairwise le3 → P (.done (.ret .none)) { s with heap := sortedHeap s.heap a [v0, v1, v2, v3] (p.map fun i => [v0, v1, v2, v3].getD i Value.none).toArray }) :
    wpAny (model prog w) A (Builtin.«list.sort» ⟨[.ref a], []⟩) P E s := by
  rw [list_sort_plain]
  have ha : a < s.heap.objs.size := Heap.lt_size ho
  refine wpAny_bind (listItems_at ho rfl ?_)
  refine wpAny_bind (listUpdate_at ho rfl ?_ (by show 4 ≤ sizeLine; rw [sizeLine_eq]; omega) (Nat.zero_le _))
  obtain ⟨e1, ho1⟩ : ∃ e1, (s.heap.update a (Obj.mapSeq fun _ => #[])).get? a = some (seqObj "list" #[] e1) := ⟨_, get?_update_seq ho (fun _ => #[])⟩
  refine wpAny_bind (seqEpoch_at ho1 rfl ?_)
  refine wpAny_bind (wpAny_newTuple ?_ (by show 4 ≤ sizeLine; rw [sizeLine_eq]; omega))
  refine wpAny_bind (wpAny_newList ?_ (Nat.zero_le _))
  refine wpAny_holding ?_
  have ho6 : (((s.heap.update a (Obj.mapSeq fun _ => #[])).push (seqObj "tuple" [v0, v1, v2, v3].toArray 0)).push (seqObj "list" #[] 0)).get? a = some (seqObj "list" #[] e1) := by
    rw [Heap.get?_push_ne _ _ _ (by rw [size_push', Heap.size_update]; exact Nat.ne_of_lt (Nat.lt_succ_of_lt ha)), Heap.get?_push_ne _ _ _ (by rw [Heap.size_update]; exact Nat.ne_of_lt ha)]
    exact ho1
  have keep : ∀ b o, b ≠ a → s.heap.get? b = some o → (((s.heap.update a (Obj.mapSeq fun _ => #[])).push (seqObj "tuple" [v0, v1, v2, v3].toArray 0)).push (seqObj "list" #[] 0)).get? b = some o := fun b o hb e => by
    have hlt : b < s.heap.objs.size := Heap.lt_size e
    rw [Heap.get?_push_ne _ _ _ (by rw [size_push', Heap.size_update]; exact Nat.ne_of_lt (Nat.lt_succ_of_lt hlt)), Heap.get?_push_ne _ _ _ (by rw [Heap.size_update]; exact Nat.ne_of_lt hlt), Heap.get?_update_ne _ _ _ _ hb]
    exact e
  show wpAny (model prog w) A _ P E { s with heap := ((s.heap.update a (Obj.mapSeq fun _ => #[])).push (seqObj "tuple" [v0, v1, v2, v3].toArray 0)).push (seqObj "list" #[] 0) }
  dsimp only
  have K : ∀ {v t}, Tup3 s.heap v t → Tup3 (((s.heap.update a (Obj.mapSeq fun _ => #[])).push (seqObj "tuple" [v0, v1, v2, v3].toArray 0)).push (seqObj "list" #[] 0)) v t := fun {v t} x => by
    obtain ⟨b, m, k1, k2, k3, e, o⟩ := x
    exact ⟨b, m, k1, k2, k3, e, keep b _ (fun q => by subst q; rw [ho] at o; exact absurd (congrArg (fun o : Option Obj => o.map (·.cls)) o) (by show ¬ some (Value.type "list") = some (Value.type "tuple"); decide)) o⟩
  have K0 := K h0; have K1 := K h1; have K2 := K h2; have K3 := K h3
  generalize hH : ((s.heap.update a (Obj.mapSeq fun _ => #[])).push (seqObj "tuple" [v0, v1, v2, v3].toArray 0)).push (seqObj "list" #[] 0) = H at ho6 K0 K1 K2 K3
  have hn2 : ¬ [v0, v1, v2, v3].toArray.size < 2 := by show ¬ 4 < 2; omega
  rw [if_neg hn2, if_neg hn2]
  obtain ⟨a0, m0, i0, j0, l0, r0, o0⟩ := id K0
  obtain ⟨a1, m1, i1, j1, l1, r1, o1⟩ := id K1
  obtain ⟨a2, m2, i2, j2, l2, r2, o2⟩ := id K2
  obtain ⟨a3, m3, i3, j3, l3, r3, o3⟩ := id K3
  have kt : KatTups H [v0, v1, v2, v3] [.int t0.1 i0, .int t1.1 i1, .int t2.1 i2, .int t3.1 i3] := by
    subst r0 r1 r2 r3
    exact .cons o0 rfl rfl rfl (.cons o1 rfl rfl rfl (.cons o2 rfl rfl rfl (.cons o3 rfl rfl rfl .nil)))
  refine wpAny_bind (kat_kind (s := { s with heap := H }) kt (by show 0 < 4; omega) (fun v hv => ?_) (T := .type "int") (by decide) ?_)
  · simp only [List.mem_cons, List.not_mem_nil, or_false] at hv
    rcases hv with rfl | rfl | rfl | rfl <;> exact Looks.of_pure rfl
  obtain ⟨p, n1, n2, n3, n4⟩ := @net_four t0 t1 t2 t3
  have G : ∀ i j (C : Bool → Shared → Prop), i < 4 → j < 4 → C (lt3 ([t0, t1, t2, t3].getD i (0, 0, 0)) ([t0, t1, t2, t3].getD j (0, 0, 0))) { s with heap := H } → kas_ask prog w A (tuples' (Value.type "int" != Value.type "tuple")) [v0, v1, v2, v3] i j C { s with heap := H } := fun i j C hi hj hC => by
    have T : ∀ i, i < 4 → Tup3 H ([v0, v1, v2, v3].getD i Value.none) ([t0, t1, t2, t3].getD i (0, 0, 0)) := fun i hi => by
      have : i = 0 ∨ i = 1 ∨ i = 2 ∨ i = 3 := by omega
      rcases this with rfl | rfl | rfl | rfl
      · exact K0
      · exact K1
      · exact K2
      · exact K3
    exact cmp3 (s := { s with heap := H }) (T i hi) (T j hj) hC
  refine wpAny_bind (wpAny_mono (kat_run (vs := [v0, v1, v2, v3]) (ks := [v0, v1, v2, v3]) (Q := fun st' s' => s' = { s with heap := H } ∧ (arrOf st').map (·.2) = List.toArray (p.map fun i => [v0, v1, v2, v3].getD i Value.none) ∧ failedOf st' = none)
    (G := fun q s' => s' = { s with heap := H } ∧ q.toList = p) rfl (by show 2 ≤ 4; omega) (by show 4 < 64; omega) (fun q st' s' z1 z2 z3 z4 => ⟨z4.1, by rw [kat_snds (vs := [v0, v1, v2, v3]) (ks := [v0, v1, v2, v3]) rfl z2, z4.2], z3⟩) (kasWp_run G _ n1 ⟨rfl, n2⟩)) ?_ fun _ _ e => e)
  rintro ⟨⟨⟩, st'⟩ s' ⟨rfl, hs, hf⟩
  dsimp only
  rw [hs]
  refine wpAny_bind (seqEpoch_at (s := { s with heap := H }) ho6 rfl ?_)
  have hp4 : p.length = 4 := by
    have : ∀ p ∈ perms4, p.length = 4 := by decide
    exact this p n3
  refine wpAny_bind (listUpdate_at (s := { s with heap := H }) ho6 rfl ?_ (Nat.zero_le _) (by rw [List.size_toArray, List.length_map, hp4, sizeLine_eq]; omega))
  rw [hf]
  simp only [bne_self_eq_false, Bool.false_eq_true, if_false]
  refine wpAny_pure ?_
  have := h p n3 n4
  unfold sortedHeap at this
  rw [hH] at this
  exact this

theorem sorted_four {l : Addr} {v0 v1 v2 v3 : Value} {t0 t1 t2 t3 : T3} {Q : Value → Shared → Prop} (hl : s.heap.IsList l [v0, v1, v2, v3].toArray)
    (h0 : Tup3 s.heap v0 t0) (h1 : Tup3 s.heap v1 t1) (h2 : Tup3 s.heap v2 t2) (h3 : Tup3 s.heap v3 t3)
    (h : ∀ p ∈ perms4, (p.map fun i => [t0, t1, t2, t3].getD i (0, 0, 0)).Pairwise le3 → Q (.ref (s.heap.objs.size + 1)) { s with heap := sortedAll s.heap [v0, v1, v2, v3] (p.map fun i => [v0, v1, v2, v3].getD i Value.none).toArray }) :
    wpAny (model prog w) A (call (.builtin "sorted") [.ref l]) Q E s := by
  refine Calls.call_function_entry kind_sorted plain_sorted entry_sorted (args_sorted1 _) ?_
  unfold Builtin.«sorted»
  refine wpAny_bind (m := checkCount "sorted" 1 1 _) (wpAny_pure ?_)
  refine wpAny_bind (collect_list hl ?_ (by show 4 ≤ sizeLine; rw [sizeLine_eq]; omega))
  refine wpAny_bind (wpAny_newList ?_ (by show 4 ≤ sizeLine; rw [sizeLine_eq]; omega))
  have hsz : ((s.heap.push (seqObj "list" #[] 0)).update s.heap.objs.size (Obj.mapSeq (· ++ [v0, v1, v2, v3].toArray))).objs.size = s.heap.objs.size + 1 := by
    rw [Heap.size_update, size_push']
  have hoL : (((s.heap.push (seqObj "list" #[] 0)).update s.heap.objs.size (Obj.mapSeq (· ++ [v0, v1, v2, v3].toArray))).push (seqObj "list" [v0, v1, v2, v3].toArray 0)).get? (s.heap.objs.size + 1) = some (seqObj "list" [v0, v1, v2, v3].toArray 0) := by
    rw [← hsz]; exact Heap.get?_push_size _ rfl
  have keep : ∀ b o, s.heap.get? b = some o → (((s.heap.push (seqObj "list" #[] 0)).update s.heap.objs.size (Obj.mapSeq (· ++ [v0, v1, v2, v3].toArray))).push (seqObj "list" [v0, v1, v2, v3].toArray 0)).get? b = some o := fun b o q => by
    have hlt : b < s.heap.objs.size := Heap.lt_size q
    rw [Heap.get?_push_ne _ _ _ (by rw [hsz]; exact Nat.ne_of_lt (Nat.lt_succ_of_lt hlt)), Heap.get?_update_ne _ _ _ _ (Nat.ne_of_lt hlt), Heap.get?_push_ne _ _ _ (Nat.ne_of_lt hlt)]
    exact q
  show wpAny _ _ _ _ _ { s with heap := ((s.heap.push (seqObj "list" #[] 0)).update s.heap.objs.size (Obj.mapSeq (· ++ [v0, v1, v2, v3].toArray))).push (seqObj "list" [v0, v1, v2, v3].toArray 0) }
  rw [hsz]
  refine wpAny_bind (wpAny_holding (wpAny_call_entry slot_list_sort ⟨_, hoL, rfl⟩ entry_list_sort (list_sort_four hoL (h0.keep keep) (h1.keep keep) (h2.keep keep) (h3.keep keep) fun p a1 a2 => ⟨_, rfl, ?_⟩) (args_list_sort _)))
  exact wpAny_pure ⟨_, rfl, h p a1 a2⟩
end


section
variable {c : Cx} {r : Nat} {fx : Fx} {vs : Vis} {st : St}

/-- what was not alive is none of the moving ones -/
theorem RelF.not_mv {ρ : Rho} {s : Shared} (R : RelF c fx ρ st s) {a : Addr} (hn : s.heap.get? a = none) : a ∉ fx.mv ρ := by
  intro hm
  simp only [Fx.mv, List.mem_append] at hm
  rcases hm with hm | hm
  · obtain ⟨i, p, e, hh⟩ := Rho.mem_addrs.mp hm
    have hi : i < st.σ.length := by rw [← R.rel.len]; exact (List.getElem?_eq_some_iff.mp e).1
    have := R.rel.objs i p st.σ[i] e (List.getElem?_eq_getElem hi)
    cases hσ : st.σ[i] with
    | lst ds =>
      rw [hσ] at this; obtain ⟨e1, vs, n, a, b⟩ := this
      rcases hh with hh | hh
      · rw [← hh, hn] at a; cases a
      · rw [e1, ← hh, hn] at a; cases a
    | inst K ns xs =>
      rw [hσ] at this; obtain ⟨_, _, e1, es, n, vs, a, b, _⟩ := this
      rcases hh with hh | hh
      · rw [← hh, hn] at a; cases a
      · rw [← hh, hn] at b; cases b
  · obtain ⟨o', e⟩ := R.rel.avs _ (List.mem_append.mpr hm)
    rw [hn] at e; cases e

theorem get_end (h : Heap) : h.get? h.objs.size = none := by
  cases e : h.get? h.objs.size with
  | none => rfl
  | some o => exact absurd (Heap.lt_size e) (Nat.lt_irrefl _)
theorem get_none_old {h h' : Heap} (k : ∀ b o, h.get? b = some o → h'.get? b = some o) {a : Addr} (ha : h'.objs.size ≤ a) : h.get? a = none := by
  cases e : h.get? a with
  | none => rfl
  | some o => exact absurd (Nat.lt_of_lt_of_le (Heap.lt_size (k _ _ e)) ha) (Nat.lt_irrefl _)

theorem newL_grow {ρ : Rho} {s s' : Shared} {ds : List D} {vals : List Value} {a : Addr} {n : Nat} {k : KV} {Q : Value → Shared → Prop} (R : RelF c fx ρ st s) (g : Grow s s') (hn : s.heap.get? a = none)
    (ha : s'.heap.get? a = some (lstObj vals n)) (hr : Reps c.C (Still s.heap (fx.mv ρ)) ds vals) (h : newL st ds k)
    (q : ∀ v st' ρ' val s', RelF c fx ρ' st' s' → Nxt fx.own ρ s ρ' s' → VRep c.C ρ' (Still s'.heap (fx.mv ρ')) v val → k v st' → Q val s') : Q (.ref a) s' := by
  have N := g.nxt_track (own := fx.own) (ρ := ρ) (p := (a, a)) hn hn
  exact q _ _ (ρ ++ [(a, a)]) _ _ (R.track (m := .lst ds) g hn hn ⟨rfl, vals, n, ha, hr.mono fun a o x => N.still a o x⟩) N (show VRep _ _ _ (.lst st.σ.length) _ from ⟨(a, a), by rw [← R.rel.len]; simp, rfl⟩) h

theorem still_grow {ρ : Rho} {s s' : Shared} (g : Grow s s') : ∀ a o, Still s.heap (fx.mv ρ) a o → Still s'.heap (fx.mv ρ) a o := fun a o x => ⟨g.keep a o x.1, x.2⟩

theorem ints_rep {C : Addr} {P : ObjAt} : ∀ {ds : List D} {vs : List Value} {l : List Int}, intsD ds = some l → Reps C P ds vs → ∃ xs : List (Int × Tok), vs = xs.map (fun p => Value.int p.1 p.2) ∧ xs.map (·.1) = l
  | [], _, _, h, x => by dsimp only [Reps] at x; subst x; cases h; exact ⟨[], rfl, rfl⟩
  | d :: ds, _, l, h, x => by
    dsimp only [Reps] at x
    obtain ⟨v, r, rfl, a, y⟩ := x
    cases d with
    | int i =>
      dsimp only [intsD] at h
      cases e : intsD ds with
      | none => rw [e] at h; cases h
      | some l' =>
        rw [e] at h; cases h
        obtain ⟨xs, rfl, rfl⟩ := ints_rep e y
        obtain ⟨t, rfl⟩ := a
        exact ⟨(i, t) :: xs, rfl, rfl⟩
    | _ => cases h
theorem items_of {xs : List (Int × Tok)} : (xs.map fun p => Value.int p.1 p.2).toArray = intItems xs.toArray := by simp [intItems]

theorem rangeSize_len {a b s : Int} (hs : 0 < s) : Builtin.Range.rangeSize a b s = (rangeLen a b s : Int) := by
  unfold Builtin.Range.rangeSize rangeLen
  rw [if_pos hs]
  split
  · have : 0 ≤ (b - a - 1) / s := Int.ediv_nonneg (by omega) (by omega)
    omega
  · rfl
theorem range_small {a b s : Int} (ha : small a) (hb : small b) (hs : 0 < s) (hs2 : s < 1000000) : Builtin.Range.small a b s = true := by
  have hl : Builtin.Range.rangeSize a b s < 2 ^ 63 := by
    unfold Builtin.Range.rangeSize
    rw [if_pos hs]
    split
    · have : (b - a - 1) / s ≤ b - a - 1 := Int.ediv_le_self _ (by omega)
      unfold small at *; omega
    · decide
  have hl2 : 0 ≤ Builtin.Range.rangeSize a b s := by rw [rangeSize_len hs]; omega
  unfold Builtin.Range.small
  unfold small at *
  simp only [Builtin.Range.rangeFitsLong, Bool.and_eq_true, Bool.or_eq_true, decide_eq_true_eq, beq_iff_eq, show s > 0 from hs, if_true]
  omega

theorem range_rep {C : Addr} {P : ObjAt} {a b s : Int} {acc : Array Value} (h : ItemsOf (fun i v => ∃ t, v = .int (a + i * s) t) acc (rangeLen a b s)) : Reps C P ((rangeL a b s).map .int) acc.toList := by
  refine Reps.iff_get (by simp [rangeL, h.1]) fun i d v hd hv => ?_
  have hi : i < rangeLen a b s := by
    have := (List.getElem?_eq_some_iff.mp hv).1; rw [← h.1]; simpa using this
  obtain ⟨t, rfl⟩ := h.2 i v (by simpa using hv)
  have : d = .int (a + s * (i : Int)) := by
    rw [rangeL, List.map_map, List.getElem?_map, List.getElem?_range hi] at hd
    simpa using hd.symm
  rw [this]
  exact ⟨t, by rw [Int.mul_comm]⟩

theorem iter_ints_tup {prog : Program} {w : World} {A : Around} {E : Value → Shared → Prop} {s : Shared} {a : Addr} {xs : List (Int × Tok)} {n : Nat} {Q : Value → Shared → Prop} (hh : A.handled = none) (ha : s.heap.get? a = some (tupObj (xs.map fun p => Value.int p.1 p.2) n))
    (q : ∀ h' tk t', (∀ b o, s.heap.get? b = some o → h'.get? b = some o) → Q (.int (xs.map (·.1)).sum t') { s with heap := h', toks := tk }) :
    wpAny (model prog w) A (call (.builtin "sum") [.ref a]) Q E s := by
  have hT : s.heap.IsTuple a (intItems xs.toArray) := ⟨_, ha, rfl, n, by show Data.seq _ _ = _; rw [items_of]⟩
  have hlt : a < s.heap.objs.size := Heap.lt_size ha
  refine call_sum_walkG (wpAny_pyIter_tuple hT ?_)
  refine ⟨_, [_, a], [_], _, _, _, numAt xs.toArray, rfl, Walks.tuple (A := A.in1) hh _ a (Nat.ne_of_lt hlt) (intItems xs.toArray),
    ⟨⟨_, Heap.get?_push_size _ rfl, rfl, rfl⟩, hT.push _⟩, fun c hc => ?_, (fun _ _ => intItems_at), fun h' tk t' hk => ?_⟩
  · show c < (s.heap.push _).objs.size
    rw [Heap.size_push]
    rcases List.mem_cons.mp hc with rfl | hc
    · exact Nat.lt_succ_self _
    · rcases List.mem_cons.mp hc with rfl | hc
      · exact Nat.lt_succ_of_lt hlt
      · cases hc
  · have := q h' tk t' fun b o e => hk b o (fun hm => ?_) (Heap.get?_push_of_some _ e)
    · rw [preSum_eq, List.take_of_length_le (by simp [intItems])]; simpa using this
    · rcases List.mem_cons.mp hm with e1 | hm
      · exact absurd (e1 ▸ Heap.lt_size e) (Nat.lt_irrefl _)
      · cases hm


/-- how a built-in is called by its name -/
noncomputable def biV : Bi → BV
  | .len => .len
  | .max2 => .max
  | .min2 => .min
  | .maxl => .max
  | .minl => .min
  | .abs => .abs
  | .sum => .sum
  | .range1 => .range
  | .range2 => .range
  | .range3 => .range
  | .list => .list
  | .sorted => .sorted
  | .sortedT => .sorted
  | .tuple => .tuple
  | .type => .type

theorem tup3_rep {C : Addr} {h : Heap} {mv : List Addr} {t : T3} {v : Value} (x : Rep C (Still h mv) (tup3 t) v) : Tup3 h v t := by
  obtain ⟨a, vs, n, rfl, p, hr⟩ := x
  obtain ⟨u0, _, rfl, ⟨k1, rfl⟩, hr⟩ := hr
  obtain ⟨u1, _, rfl, ⟨k2, rfl⟩, hr⟩ := hr
  obtain ⟨u2, _, rfl, ⟨k3, rfl⟩, hr⟩ := hr
  simp only [Reps] at hr
  subst hr
  exact ⟨a, n, k1, k2, k3, rfl, p.1⟩
theorem reps_map {C : Addr} {P : ObjAt} {f : Nat → D} {g : Nat → Value} : ∀ {p : List Nat}, (∀ i ∈ p, i < 4) → (∀ i, i < 4 → Rep C P (f i) (g i)) → Reps C P (p.map f) (p.map g)
  | [], _, _ => rfl
  | i :: p, h, r => .cons (r i (h i (List.mem_cons_self ..))) (reps_map (fun j hj => h j (List.mem_cons_of_mem _ hj)) r)
theorem biS_snd (hh : fx.A.handled = none) {b : Bi} {xs : List V} {k : KV} (h : biS b xs st k) : TO c fx (fun vs => call (biV b).val vs) xs st k := by
  intro ρ s Q E vals R hv q
  cases b with
  | len =>
    obtain ⟨x, rfl, h0⟩ := one1_inv h
    clear h
    rcases lenS_inv h0 with ⟨a, rfl, h⟩ | ⟨a, rfl, h⟩ | ⟨a, rfl, h⟩ | ⟨i, ds, rfl, e0, h⟩
    · obtain ⟨u, rfl, t, rfl⟩ := hv.one
      exact PyProof.Rows.len_str (by have := h.1; omega) (q _ _ _ _ _ (R.grow .tk) (Grow.nxt .tk) .int h.2)
    · obtain ⟨u, rfl, a, vs, n, rfl, p, hr⟩ := hv.one
      have hl := hr.length
      refine PyProof.Rows.len_list (lst_is p.1) (by have := h.1; simp; omega) ?_
      have e : ((vs.toArray.size : Nat) : Int) = vs.length := by simp
      rw [e, hl]
      exact q _ _ _ _ _ (R.grow .tk) (Grow.nxt .tk) .int h.2
    · obtain ⟨u, rfl, a, vs, n, rfl, p, hr⟩ := hv.one
      have hl := hr.length
      refine PyProof.Rows.len_tuple (items := vs.toArray) ⟨_, p.1, rfl, n, rfl⟩ (by have := h.1; simp; omega) ?_
      have e : ((vs.toArray.size : Nat) : Int) = vs.length := by simp
      rw [e, hl]
      exact q _ _ _ _ _ (R.grow .tk) (Grow.nxt .tk) .int h.2
    · obtain ⟨u, rfl, hu⟩ := hv.one
      obtain ⟨a, vs, n, e1, e2, hr⟩ := R.list e0
      obtain ⟨p, e3, rfl⟩ := hu
      rw [e1] at e3; cases e3
      have hl := hr.length
      refine PyProof.Rows.len_list (lst_is e2) (by have := h.1; simp; omega) ?_
      have e : ((vs.toArray.size : Nat) : Int) = vs.length := by simp
      rw [e, hl]
      exact q _ _ _ _ _ (R.grow .tk) (Grow.nxt .tk) .int h.2
  | max2 =>
    obtain ⟨x, y, rfl, h0⟩ := two1_inv h
    clear h
    obtain ⟨a, rfl, h1⟩ := int1_inv h0
    clear h0
    obtain ⟨b, rfl, h⟩ := int1_inv h1
    clear h1
    obtain ⟨u, v, rfl, ⟨t, rfl⟩, ⟨t', rfl⟩⟩ := hv.two
    refine withT (max_two_ints hh fun h' tk hk ht => ?_)
    have g : Grow s { s with heap := h', toks := tk } := .heap hk
    split <;> rename_i hc
    · rw [if_pos hc] at h; exact q _ _ _ _ _ (R.grow g) g.nxt .int h
    · rw [if_neg hc] at h; exact q _ _ _ _ _ (R.grow g) g.nxt .int h
  | min2 =>
    obtain ⟨x, y, rfl, h0⟩ := two1_inv h
    clear h
    obtain ⟨a, rfl, h1⟩ := int1_inv h0
    clear h0
    obtain ⟨b, rfl, h⟩ := int1_inv h1
    clear h1
    obtain ⟨u, v, rfl, ⟨t, rfl⟩, ⟨t', rfl⟩⟩ := hv.two
    refine withT (min_two_ints hh fun h' tk hk ht => ?_)
    have g : Grow s { s with heap := h', toks := tk } := .heap hk
    split <;> rename_i hc
    · rw [if_pos hc] at h; exact q _ _ _ _ _ (R.grow g) g.nxt .int h
    · rw [if_neg hc] at h; exact q _ _ _ _ _ (R.grow g) g.nxt .int h
  | maxl => exact h.elim
  | minl => exact h.elim
  | abs => exact h.elim
  | sum =>
    obtain ⟨x, rfl, h0⟩ := one1_inv h
    clear h
    rcases seq1_inv h0 with ⟨ds, rfl, h⟩ | ⟨ds, rfl, h⟩
    · obtain ⟨u, rfl, a, vs, n, rfl, p, hr⟩ := hv.one
      obtain ⟨l, h1, h2, h3⟩ := h
      obtain ⟨xs, rfl, rfl⟩ := ints_rep h1 hr
      refine withT (sum_intListG hh (xs := xs.toArray) (by rw [← items_of]; exact lst_is p.1) fun h' tk t' hk ht => ?_)
      rw [preSum_eq, List.take_of_length_le (by simp)]
      have g : Grow s { s with heap := h', toks := tk } := .heap hk
      exact q _ _ _ _ _ (R.grow g) g.nxt .int h3
    · obtain ⟨u, rfl, a, vs, n, rfl, p, hr⟩ := hv.one
      obtain ⟨l, h1, h2, h3⟩ := h
      obtain ⟨xs, rfl, rfl⟩ := ints_rep h1 hr
      refine withT (iter_ints_tup hh p.1 fun h' tk t' hk ht => ?_)
      have g : Grow s { s with heap := h', toks := tk } := .heap hk
      exact q _ _ _ _ _ (R.grow g) g.nxt .int h3
  | range1 =>
    obtain ⟨x, rfl, h⟩ := one1_inv h
    obtain ⟨a, rfl, h⟩ := int1_inv h
    obtain ⟨u, rfl, t, rfl⟩ := hv.one
    refine call_range_1 ?_
    obtain ⟨R', N', p⟩ := frozen_push (t := s.toks + 1 + 1) R (o := { cls := .type "range", data := .fields #[.int 0 s.toks, .int _ t, .int 1 (s.toks + 1)] }) rfl
    exact q _ _ _ _ _ R' N' (show VRep _ _ _ (.d (.rng _ _ _)) _ from ⟨_, _, _, _, rfl, p⟩) h
  | range2 =>
    obtain ⟨x, y, rfl, h⟩ := two1_inv h
    obtain ⟨a, rfl, h⟩ := int1_inv h
    obtain ⟨b, rfl, h⟩ := int1_inv h
    obtain ⟨u, v, rfl, ⟨t, rfl⟩, ⟨t', rfl⟩⟩ := hv.two
    refine call_range_2 ?_
    obtain ⟨R', N', p⟩ := frozen_push (t := s.toks + 1) R (o := { cls := .type "range", data := .fields #[.int _ t, .int _ t', .int 1 s.toks] }) rfl
    exact q _ _ _ _ _ R' N' (show VRep _ _ _ (.d (.rng _ _ _)) _ from ⟨_, _, _, _, rfl, p⟩) h
  | range3 =>
    obtain ⟨x, y, z, rfl, h⟩ := three1_inv h
    obtain ⟨a, rfl, h⟩ := int1_inv h
    obtain ⟨b, rfl, h⟩ := int1_inv h
    obtain ⟨b', rfl, h⟩ := int1_inv h
    obtain ⟨u, v, w, rfl, ⟨t, rfl⟩, ⟨t', rfl⟩, ⟨t'', rfl⟩⟩ := hv.three
    refine call_range_3 (by have := h.1; omega) ?_ (.inl (PyProof.noPylong_small (by have := h.1; have := h.2.1; omega)))
    obtain ⟨R', N', p⟩ := frozen_push (t := s.toks) R (o := { cls := .type "range", data := .fields #[.int _ t, .int _ t', .int _ t''] }) rfl
    exact q _ _ _ _ _ R' N' (show VRep _ _ _ (.d (.rng _ _ _)) _ from ⟨_, _, _, _, rfl, p⟩) h.2.2
  | list =>
    obtain ⟨x, rfl, h⟩ := one1_inv h
    obtain ⟨a0, b0, s0, rfl, h⟩ := rng1_inv h
    obtain ⟨u, rfl, a, t1, t2, t3, rfl, p⟩ := hv.one
    obtain ⟨h1, h2, h3, h4, h5, h6⟩ := h
    refine withT (call_list_range hh p.1 (range_small h1 h2 h3 h4) (rangeSize_len h3) (by omega) fun h' tk acc' c' hk hS hacc ht => ?_)
    have g : Grow s { s with heap := h', toks := tk } := .heap hk
    exact newL_grow R g (get_end _) (n := c') (vals := acc'.toList) (by simpa [lstObj] using hS) (range_rep hacc) h6 q
  | sorted => exact h.elim
  | sortedT =>
    obtain ⟨x, rfl, h0⟩ := one1_inv h
    clear h
    obtain ⟨ds, rfl, h⟩ := lst1_inv h0
    obtain ⟨t0, t1, t2, t3, rfl, hk⟩ := h
    obtain ⟨u, rfl, a, vs, n, rfl, p, hr⟩ := hv.one
    obtain ⟨v0, _, rfl, r0, hr⟩ := hr
    obtain ⟨v1, _, rfl, r1, hr⟩ := hr
    obtain ⟨v2, _, rfl, r2, hr⟩ := hr
    obtain ⟨v3, _, rfl, r3, hr⟩ := hr
    simp only [Reps] at hr
    subst hr
    refine sorted_four (lst_is p.1) (tup3_rep r0) (tup3_rep r1) (tup3_rep r2) (tup3_rep r3) fun p a1 a2 => ?_
    obtain ⟨e, he⟩ := sortedAll_at s.heap [v0, v1, v2, v3] (p.map fun i => [v0, v1, v2, v3].getD i Value.none).toArray
    have g : Grow s { s with heap := sortedAll s.heap [v0, v1, v2, v3] (p.map fun i => [v0, v1, v2, v3].getD i Value.none).toArray } := ⟨fun _ _ => sortedAll_old, rfl, rfl, Nat.le_refl _⟩
    refine q _ _ ρ _ _ (R.grow g) g.nxt ?_ (hk p a1 a2)
    refine ⟨_, p.map fun i => [v0, v1, v2, v3].getD i Value.none, e, rfl, ⟨by simpa [lstObj, seqObj] using he, R.not_mv (Heap.get?_none_of_le (Nat.le_succ _))⟩, ?_⟩
    have lt4 : ∀ p ∈ perms4, ∀ i ∈ p, i < 4 := by decide
    have sg := still_grow (ρ := ρ) (fx := fx) g
    have r4 : ∀ i, i < 4 → Rep c.C (Still (sortedAll s.heap [v0, v1, v2, v3] (p.map fun i => [v0, v1, v2, v3].getD i Value.none).toArray) (fx.mv ρ)) (tup3 (of4 t0 t1 t2 t3 i)) ([v0, v1, v2, v3].getD i Value.none) := fun i hi => by
      have : i = 0 ∨ i = 1 ∨ i = 2 ∨ i = 3 := by omega
      rcases this with rfl | rfl | rfl | rfl
      · exact Rep.mono sg r0
      · exact Rep.mono sg r1
      · exact Rep.mono sg r2
      · exact Rep.mono sg r3
    exact reps_map (lt4 p a1) r4
  | tuple =>
    obtain ⟨x, rfl, h0⟩ := one1_inv h
    clear h
    obtain ⟨i, ds, rfl, e0, h⟩ := trk1_inv h0
    obtain ⟨u, rfl, hu⟩ := hv.one
    obtain ⟨a, vs, n, e1, e2, hr⟩ := R.list e0
    obtain ⟨p, e3, rfl⟩ := hu
    rw [e1] at e3; cases e3
    refine call_tuple_list (lst_is e2) (fun h' hk => ?_) (by have := hr.length; have := h.1; rw [sizeLine_eq]; simp; omega)
    have hk2 : ∀ b o, s.heap.get? b = some o → (h'.push { cls := .type "tuple", data := .seq vs.toArray }).get? b = some o := fun b o e => Heap.get?_push_of_some _ (hk b o e)
    have g : Grow s { s with heap := h'.push { cls := .type "tuple", data := .seq vs.toArray } } := ⟨hk2, rfl, rfl, Nat.le_refl _⟩
    refine q _ _ ρ _ _ (R.grow g) g.nxt ?_ h.2
    refine ⟨_, vs, 0, rfl, ⟨Heap.get?_push_size _ rfl, R.not_mv (get_none_old hk (Nat.le_refl _))⟩, hr.mono (still_grow g)⟩
  | type =>
    obtain ⟨x, rfl, h0⟩ := one1_inv h
    clear h
    rcases tyS_inv h0 with ⟨a, rfl, h⟩ | ⟨i, ds, rfl, e0, h⟩
    · obtain ⟨u, rfl, t, rfl⟩ := hv.one
      exact call_type_of (typeIs_str _ _ _) (by decide) (q _ _ _ _ _ R .refl (show VRep _ _ _ (.ty _) _ from rfl) h)
    · obtain ⟨u, rfl, hu⟩ := hv.one
      obtain ⟨a, vs, n, e1, e2, hr⟩ := R.list e0
      obtain ⟨p, e3, rfl⟩ := hu
      rw [e1] at e3; cases e3
      exact call_type_of ⟨_, e2, rfl⟩ (by decide) (q _ _ _ _ _ R .refl (show VRep _ _ _ (.ty _) _ from rfl) h)

theorem keeps_bi {M : Model} {P : Heap → Prop} (b : BV) (h : Heap) (X : P h) : ∃ k, (k = Keeper.frame ∨ k = Keeper.machine ∨ k = Keeper.boundFrame) ∧ Looks M h (keeperOf b.val) k := by
  cases b <;> exact ⟨_, .inr (.inl rfl), Looks.of_pure rfl⟩

/-- a call of a built-in by its name -/
theorem TE_bi (O : Ok c) (ok : FxOk c r fx vs) {N : Nm} {gi : Nat} {x : Str} {b : BV} {es : MEs} {p q : Pos} {k : KV} (hi : gi ∈ vs.globs) (hg : c.g gi = some (x, .bi b))
    (h : TEs c fx (spliced (backTo q (starEach (toEs N es) fx.env))) st fun xs st1 => TO c fx (fun vs => call b.val vs) xs st1 k) : TE c fx (eval (.Call (.Name x p) (toEs N es) [] q) fx.env) st k := by
  intro ρ s Q E R z
  refine Call_ (load_glob O ok R hi hg fun val hval => ?_)
  cases hval
  refine callWith_of (P := fun _ => True) (by rw [star_plain]; rfl) (keeps_bi b) ?_
  refine evalArgs_go (star_plain' es) rfl ?_
  refine h ρ s _ _ R fun xs st1 ρ1 vals s1 R1 N1 r1 h1 => wpAny_pure ⟨trivial, ?_⟩
  exact h1 ρ1 s1 _ _ vals R1 r1 fun v st' ρ' val s' R' N' r' hk => z _ _ _ _ _ R' (N1.trans N') r' hk
end


section
variable {c : Cx} {r : Nat} {fx : Fx} {vs : Vis} {st : St}

/-- a tracked object turns -/
theorem RelF.turn {ρ : Rho} {s s' : Shared} {a : Addr} {i : Nat} {p : Addr × Addr} {m' : MObj} (R : RelF c fx ρ st s) (hp : ρ[i]? = some p) (ha : a = p.1 ∨ a = p.2) (hs : Heap.SameBut a s.heap s'.heap)
    (hal : ∃ o, s'.heap.get? a = some o) (hm : MRep c ρ (Still s'.heap (fx.mv ρ)) s'.heap p m') (os : s'.os = s.os) (gens : s'.gens = s.gens) (tk : s.toks ≤ s'.toks) :
    RelF c fx ρ ⟨st.σ.set i m', st.loc⟩ s' ∧ Nxt fx.own ρ s ρ s' := by
  have mem : a ∈ ρ.addrs := Rho.mem_addrs.mpr ⟨i, p, hp, ha⟩
  have off : ∀ b, b ∈ fx.own ++ fx.av → b ≠ a := fun b hb q => R.rel.off a mem (q ▸ hb)
  have offo : ∀ b, b ∈ fx.own → b ≠ a := fun b hb => off b (List.mem_append.mpr (.inl hb))
  have still : ∀ b o, Still s.heap (fx.mv ρ) b o → Still s'.heap (fx.mv ρ) b o := fun b o x => ⟨(hs.2 b (fun q => x.2 (by subst q; simp [Fx.mv, mem]))).trans x.1, x.2⟩
  refine ⟨{ rel := { base := ?_, os := os.trans R.rel.os, gens := gens.trans R.rel.gens, toks := fun h => Nat.lt_of_lt_of_le (R.rel.toks h) tk, len := by simp [R.rel.len], objs := ?_, apart := R.rel.apart, off := R.rel.off, fresh := R.rel.fresh, avs := ?_ }, ns := ?_, lown := R.lown, slots := ?_, stos := R.stos, alive := ?_, nss := ?_ }, ?_⟩
  · intro b o e
    exact (hs.2 b (fun q => by subst q; rw [R.rel.fresh b (.inl mem)] at e; cases e)).trans (R.rel.base b o e)
  · intro j q m e f
    by_cases hij : i = j
    · subst hij
      rw [hp] at e; cases e
      rw [List.getElem?_set_self (by rw [← R.rel.len]; exact (List.getElem?_eq_some_iff.mp hp).1)] at f
      cases f
      exact hm
    · rw [List.getElem?_set_ne hij] at f
      have ap := R.rel.apart i j p q hp e hij
      have n1 : q.1 ≠ a := fun z => by exact ha.elim (fun e => ap.1 (e ▸ z.symm)) (fun e => ap.2.2.1 (e ▸ z.symm))
      have n2 : q.2 ≠ a := fun z => by exact ha.elim (fun e => ap.2.1 (e ▸ z.symm)) (fun e => ap.2.2.2 (e ▸ z.symm))
      exact (R.rel.objs j q m e f).mono (fun _ _ e => e) still (fun o z => (hs.2 _ n1).trans z) (fun o z => (hs.2 _ n2).trans z)
  · intro b hb
    obtain ⟨o, z⟩ := R.rel.avs b hb
    exact ⟨o, (hs.2 b (off b hb)).trans z⟩
  · obtain ⟨m, hn⟩ := R.ns
    exact ⟨m, hn.sameBut hs (offo _ R.lown)⟩
  · intro j v e
    obtain ⟨S, val, h1, h2, h3⟩ := R.slots j v e
    exact ⟨S, val, h1, h2.keeps fun o z => (hs.2 _ (offo _ (R.stos j S h1))).trans z, h3.mono (fun _ _ e => e) still⟩
  · intro j S e h
    obtain ⟨o, v, h1, h2⟩ := R.alive j S e h
    exact ⟨o, v, (hs.2 _ (offo _ (R.stos j S e))).trans h1, h2⟩
  · intro j S e h
    obtain ⟨m, h1⟩ := R.nss j S e h
    exact ⟨m, h1.sameBut hs (offo _ (R.stos j S e))⟩
  · exact { keep := fun b o h1 _ e => (hs.2 b (fun q => h1 (q ▸ mem))).trans e
            alive := fun b e => by
              by_cases q : b = a
              · subst q; obtain ⟨o, z⟩ := hal; rw [z] at e; cases e
              · exact (hs.2 b q).symm.trans e
            pre := fun _ _ e => e
            new := fun _ h n => (n h).elim }

theorem strs_rep {C : Addr} {P : ObjAt} : ∀ {ds : List D} {vs : List Value} {l : List Str}, strsD ds = some l → Reps C P ds vs → ∃ xs : List (Str × Tok), vs = strValues xs ∧ xs.map (·.1) = l
  | [], _, _, h, x => by dsimp only [Reps] at x; subst x; cases h; exact ⟨[], rfl, rfl⟩
  | d :: ds, _, l, h, x => by
    dsimp only [Reps] at x
    obtain ⟨v, r, rfl, a, y⟩ := x
    cases d with
    | str i =>
      dsimp only [strsD] at h
      cases e : strsD ds with
      | none => rw [e] at h; cases h
      | some l' =>
        rw [e] at h; cases h
        obtain ⟨xs, rfl, rfl⟩ := strs_rep e y
        obtain ⟨t, rfl⟩ := a
        exact ⟨(i, t) :: xs, rfl, rfl⟩
    | _ => cases h
noncomputable def bmId : Bm → String
  | .lower => "str.lower"
  | .count => "str.count"
  | .join => "str.join"
  | .index => "list.index"
  | .append => "list.append"
  | .search => "re.Pattern.search"

theorem bmS_snd {b : Bm} (hs : b ≠ .search) {y : V} {xs : List V} {k : KV} (h : bmS b y xs st k) : TO c fx (fun vs => call (.builtin (bmId b)) vs) (y :: xs) st k := by
  intro ρ s Q E vals R hv q
  cases b with
  | lower =>
    obtain ⟨x, rfl, h⟩ := str1_inv h
    obtain ⟨rfl, h1, h2, h3⟩ := none0_inv h
    obtain ⟨u, rfl, t, rfl⟩ := hv.one
    refine PyProof.Rows.SCL.lower (by omega) fun _ => ?_
    rw [lower_ascii fun ch hc => by
      have := (Array.all_eq_true_iff_forall_mem.mp h1) ch (by simpa using hc)
      simp at this; omega]
    exact q _ _ _ _ _ (R.grow .tk) (Grow.nxt .tk) (show VRep _ _ _ (.d (.str _)) _ from ⟨_, rfl⟩) h3
  | count => exact h.elim
  | join =>
    obtain ⟨x, rfl, h⟩ := str1_inv h
    obtain ⟨y, rfl, h⟩ := one1_inv h
    obtain ⟨u, v, rfl, ⟨t, rfl⟩, hw⟩ := hv.two
    obtain ⟨ds, l, h1, h2, h3, h4, h5⟩ := h
    obtain ⟨x, us, n, rfl, e2, hr⟩ := listOf_at R h1 hw
    obtain ⟨xs, rfl, rfl⟩ := strs_rep h2 hr
    refine withT (SC.join (lst_is e2) rfl ?_ fun t' tk ht => ?_)
    · unfold JoinOk
      rw [Bool.not_eq_true', StrLaws.joinTotal]
      unfold Builtin.Str.tooLong
      rw [sizeLine_eq]
      exact decide_eq_false (by omega)
    · have e : ∀ sep ts, Txt.join sep ts = Str.join sep ts := StrLaws.glued_eq_join
      rw [e]
      exact q _ _ _ _ _ (R.grow (.tk ht)) (Grow.nxt (.tk ht)) .str h5
  | index => exact h.elim
  | append =>
    obtain ⟨x, rfl, h⟩ := one1_inv h
    obtain ⟨x, rfl, h⟩ := dat1_inv h
    obtain ⟨i, ds, rfl, e0, h⟩ : ∃ i ds, y = .lst i ∧ st.σ[i]? = some (.lst ds) ∧ ds.length < 2 ^ 20 ∧ k (.d .none) ⟨st.σ.set i (.lst (ds ++ [x])), st.loc⟩ := by
      cases y with
      | lst i =>
        obtain ⟨_, ds, e, e1, h⟩ := trk1_inv (x := .lst i) (st := st) (k := fun ds => ds.length < 2 ^ 20 ∧ k (.d .none) ⟨st.σ.set i (.lst (ds ++ [x])), st.loc⟩) h
        cases e; exact ⟨i, ds, rfl, e1, h⟩
      | _ => exact h.elim
    obtain ⟨u, v, rfl, hu, hw⟩ := hv.two
    obtain ⟨a, vs, n, e1, e2, hr⟩ := R.list e0
    obtain ⟨p, e3, rfl⟩ := hu
    rw [e1] at e3; cases e3
    obtain ⟨h1, h2⟩ := h
    have hl := hr.length
    refine wpAny_list_append_plain ⟨n, e2⟩ (fun h' hp hs => ?_) (by rw [sizeLine_eq]; simp; omega)
    obtain ⟨n', hp⟩ := hp
    have hp' : h'.get? a = some (lstObj (vs ++ [v]) n') := by rw [hp]; simp [lstObj]
    have st' : ∀ b o, Still s.heap (fx.mv ρ) b o → Still h' (fx.mv ρ) b o := fun b o x => ⟨(hs.2 b (fun q => x.2 (by subst q; simp [Fx.mv]; exact .inl (Rho.mem_addrs.mpr ⟨_, _, e1, .inl rfl⟩)))).trans x.1, x.2⟩
    obtain ⟨R', N'⟩ := R.turn (s' := { s with heap := h' }) e1 (.inl rfl) hs ⟨_, hp'⟩ (m' := .lst (_ ++ [_])) ⟨rfl, vs ++ [v], n', hp', (hr.mono st').append (.cons (Rep.mono st' hw) .nil)⟩ rfl rfl (Nat.le_refl _)
    exact q _ _ _ _ _ R' N' .none h2
  | search => exact absurd rfl hs
end

section Srch
open PySem.Sre PySem.Builtin PySem.Builtin.Re

noncomputable def codeOf (nm : Bool) : Array Nat := (patCode nm).toArray
noncomputable def okCh (nm : Bool) (ch : Nat) : Bool := if nm then 32 ≤ ch && ch < 127 else ch == 9 || (32 ≤ ch && ch < 127)

theorem bits_val : ∀ c, c < 127 → okCh false c = true → ((codeOf false).getD (5 + (1 + c / 32)) 0).testBit (c % 32) = false := by decide +kernel

theorem inSet_val {c : Nat} (hc : okCh false c = true) (seen : Sre.Seen) : ∃ seen', inSet (codeOf false) c (codeOf false).size 5 true seen = .ok (false, seen') := by
  have h127 : c < 127 := by unfold okCh at hc; simp at hc; omega
  have hb := bits_val c h127 hc
  refine ⟨(seen.add 9).add 0, ?_⟩
  show inSet (codeOf false) c 28 5 true seen = _
  show (if (decide (c < 256) && ((codeOf false).getD (5 + (1 + c / 32)) 0).testBit (c % 32)) = true then _ else inSet (codeOf false) c 27 14 true _) = _
  rw [hb, Bool.and_false, if_neg Bool.false_ne_true]
  rfl
theorem inSet_nm {c : Nat} (hc : okCh true c = true) (seen : Sre.Seen) : ∃ seen', inSet (codeOf true) c (codeOf true).size 5 true seen = .ok (false, seen') := by
  unfold okCh at hc
  simp at hc
  refine ⟨((seen.add 22).add 16).add 0, ?_⟩
  show inSet (codeOf true) c 20 5 true seen = _
  show (if (decide (0 ≤ c) && decide (c ≤ 31)) = true then _ else inSet (codeOf true) c 19 8 true _) = _
  rw [if_neg (by simp; omega)]
  show (if (c == 127) = true then _ else inSet (codeOf true) c 18 10 true _) = _
  rw [if_neg (by simp; omega)]
  rfl
theorem inSet_no {nm : Bool} {c : Nat} (hc : okCh nm c = true) (seen : Sre.Seen) : ∃ seen', inSet (codeOf nm) c (codeOf nm).size 5 true seen = .ok (false, seen') := by
  cases nm with
  | true => exact inSet_nm hc seen
  | false => exact inSet_val hc seen

theorem admitted_no {nm : Bool} (m : M) (hm : m.code = codeOf nm) (ht : ∀ s, s < m.lim → okCh nm (m.text.getD s 0) = true) : ∀ (fuel s : Nat) (seen : Sre.Seen), ∃ seen', M.admitted m fuel s seen = .ok (none, seen')
  | 0, s, seen => ⟨seen, rfl⟩
  | fuel + 1, s, seen => by
    dsimp only [M.admitted]
    by_cases h : s ≥ m.lim
    · rw [if_pos h]; exact ⟨seen, rfl⟩
    · rw [if_neg h, hm]
      obtain ⟨s1, e1⟩ := inSet_no (ht s (by omega)) seen
      obtain ⟨s2, e2⟩ := admitted_no m hm ht fuel (s + 1) s1
      rw [e1]
      exact ⟨s2, e2⟩

theorem attempt_no {nm : Bool} (m : M) (hm : m.code = codeOf nm) (ht : ∀ s, s < m.lim → okCh nm (m.text.getD s 0) = true) (hf : m.frames = []) (ho : m.outcome = none) (s : Nat) :
    (m.attemptFrom s true).answer = some false ∧ (m.attemptFrom s true).frames = [] ∧ (m.attemptFrom s true).outcome = none := by
  unfold M.attemptFrom
  have h1 : m.hasFirstSet = true := by
    unfold M.hasFirstSet
    rw [hm]
    cases nm <;> decide
  rw [h1]
  obtain ⟨seen', e⟩ := admitted_no m hm ht (m.lim + 1 - s) s m.seen
  rw [e]
  exact ⟨rfl, hf, ho⟩
theorem search_says {nm : Bool} {text : Array Nat} (ht : ∀ s, s < text.size → okCh nm (text.getD s 0) = true) :
    (forSearch (codeOf nm) text 0 0 text.size false).answer = some false ∧ (forSearch (codeOf nm) text 0 0 text.size false).frames = [] ∧ (forSearch (codeOf nm) text 0 0 text.size false).outcome = none := by
  unfold forSearch
  dsimp only
  split
  · cases nm <;> exact ⟨rfl, rfl, rfl⟩
  · exact attempt_no (nm := nm) _ rfl ht rfl rfl 0

section
variable {prog : Program} {w : World} {A : Around} {E : Value → Shared → Prop} {s : Shared}

theorem drive_ends {m : M} (h1 : m.answer = some false) (h2 : m.frames = []) (h3 : m.outcome = none) : ∀ n, ∃ m', reDrive (n + 1) m = pure m' ∧ m'.outcome = some .failed := fun n => by
  have e : m.runFor reTurnSteps = { m with outcome := some .failed } := by
    show M.runFor (3 + 1) m = _
    have st : m.step = { m with outcome := some .failed } := by
      unfold M.step
      rw [h3]
      simp only [Option.isSome_none, Bool.false_eq_true, if_false]
      rw [h1, h2]
      rfl
    rw [M.runFor, h3]
    simp only [Option.isSome_none, Bool.false_eq_true, if_false]
    rw [st]
    rfl
  refine ⟨{ m with outcome := some .failed }, ?_, rfl⟩
  rw [reDrive]
  rw [e]
  rfl

theorem rules_any {Q : Unit → Shared → Prop} (f : Nat → Bool) (nm : Nat → String) : ∀ (l : List Nat), Q () s → wpAny (model prog w) A (forIn l PUnit.unit fun i _ => (if f i = true then (do rule (nm i); pure (ForInStep.yield PUnit.unit)) else pure (ForInStep.yield PUnit.unit) : Sem (ForInStep PUnit))) Q E s
  | [], h => by rw [List.forIn_nil]; exact wpAny_pure h
  | i :: r, h => by
    rw [List.forIn_cons]
    refine wpAny_bind ?_
    split
    · exact wpAny_bind (wpAny_rule (wpAny_pure (rules_any f nm r h)))
    · exact wpAny_pure (rules_any f nm r h)

theorem run_ends {m : M} (h1 : m.answer = some false) (h2 : m.frames = []) (h3 : m.outcome = none) {Q : Option M → Shared → Prop} (q : Q none s) : wpAny (model prog w) A (reRunToEnd m) Q E s := by
  unfold reRunToEnd
  obtain ⟨m', e, ho⟩ := drive_ends h1 h2 h3 (2 ^ 64 - 1)
  rw [show (2 : Nat) ^ 64 = 2 ^ 64 - 1 + 1 from rfl, e]
  refine wpAny_bind (wpAny_pure ?_)
  refine wpAny_bind (wpAny_mono (rules_any (Q := fun _ s' => s' = s) (fun i => m'.seen.has i) (fun i => Sre.names.getD i "") _ rfl) (fun _ s' hs => ?_) fun _ _ x => x)
  subst hs
  rw [ho]
  exact wpAny_pure q
end

noncomputable def rev (s : String) : String := s
theorem owner_pat : Manifest.owners.lookup (String.ofList "re.Pattern".toList.reverse.reverse) = some Manifest.sig_re_Pattern := by kernel_rfl
theorem plainAttrs_pat : PlainAttrs "re.Pattern" :=
  ⟨⟨"object.__getattribute__", by rw [typeLookup_type, builtinLookup_eq_fast]; kernel_rfl, by decide +kernel⟩, by rw [typeLookup_type, builtinLookup_eq_fast]; kernel_rfl⟩
theorem slot_pat_search : Slot "re.Pattern" "search" "re.Pattern.search" :=
  .of (owner := "re.Pattern") (n := "search") (by rw [typeLookup_type, builtinLookup_eq_fast]; kernel_rfl) (by decide +kernel) (by decide +kernel) (by decide +kernel)
    (by first | exact .inl (by decide +kernel) | exact .inr (by decide +kernel)) (by rw [isSubtype_type]; kernel_rfl)
theorem type_pat_search : typeOf (.builtin "re.Pattern.search") = pure (.type "method_descriptor") := by show builtinType _ = _; rw [builtinType_eq_fast]; kernel_rfl
theorem entry_pat_search : entryFor table "re.Pattern.search" = some Builtin.«re.Pattern.search» := entryFor_of_tree (by kernel_rfl)
theorem args_pat_search (a b : Value) : argsOk "re.Pattern.search" ⟨[a, b], []⟩ := by
  unfold argsOk; rw [signature?_of (id := "re.Pattern.search") (n := ['h', 'c', 'r', 'a', 'e', 's']) (o := ['n', 'r', 'e', 't', 't', 'a', 'P', '.', 'e', 'r']) (by kernel_rfl) owner_pat]; kernel_rfl

theorem named_one (v : Value) : reNamed "re.Pattern.search" "search" ["string", "pos", "endpos"] 1 [v] [] = pure [some v, none, none] := by rfl

theorem codes_back (l : List Nat) : ((l.map fun (i : Nat) => Value.int (i : Int) 0).toArray.map reRawOf).map (·.toNat) = l.toArray := by
  apply Array.toList_inj.mp
  simp only [Array.toList_map, List.map_map]
  induction l with
  | nil => rfl
  | cons a r ih => simp only [List.map_cons]; exact congrArg _ ih

theorem search_none {prog : Program} {w : World} {A : Around} {E : Value → Shared → Prop} {s : Shared} {nm : Bool} {a : Addr} {x : Str} {t : Tok} {Q : Value → Shared → Prop} (hp : PatAt s.heap nm a) (hx : ∀ ch ∈ x.cps.toList, okCh nm ch = true) (hl : x.length ≤ 1000000)
    (q : Q .none s) : wpAny (model prog w) A (call (.builtin "re.Pattern.search") [.ref a, .str x t]) Q E s := by
  obtain ⟨v0, v1, l, n, h1, h2⟩ := hp
  refine wpAny_call_entry slot_pat_search ⟨_, h1, rfl⟩ entry_pat_search ?_ (args_pat_search _ _)
  unfold Builtin.«re.Pattern.search»
  refine wpAny_bind (m := reTarget _ _ _) ?_
  unfold reTarget
  show wpAny _ _ (do
    let [some string, pos?, lim?] ← reNamed "re.Pattern.search" "search" ["string", "pos", "endpos"] 1 [.str x t] [] | unsupported "internal:re:named"
    _) _ _ s
  rw [named_one]
  refine wpAny_bind (wpAny_pure ?_)
  refine wpAny_bind (wpAny_pure ?_)
  refine wpAny_bind (wpAny_pure ?_)
  refine wpAny_bind (wpAny_fieldsOf h1 rfl ?_)
  refine wpAny_bind (m := reTextOf _) ?_
  unfold reTextOf
  refine wpAny_bind (m := asStr? _) (wpAny_pure ?_)
  refine wpAny_pure ?_
  show wpAny _ _ (do
      reNoCollectionInside (Value.str x t) 0
      let items ← reRawItems (.ref l)
      pure ({ pattern := Value.ref a, string := Value.str x t, code := items.map (·.toNat), text := x.cps, kind := 0, groups := 0, pos := Min.min (0 : Int).toNat x.cps.size, lim := Min.min ((2 : Int) ^ 63 - 1).toNat x.cps.size } : ReTarget)) _ _ _
  refine wpAny_bind (m := reNoCollectionInside _ _) (wpAny_pure ?_)
  refine wpAny_bind ?_
  unfold reRawItems
  refine wpAny_bind (wpAny_seqItems h2 rfl (wpAny_pure ?_))
  refine wpAny_pure ?_
  have e1 : ((((some ((patCode nm).map fun (i : Nat) => Value.int (i : Int) 0).toArray).getD #[]).map reRawOf).map (·.toNat)) = codeOf nm := codes_back _
  have e2 : Min.min (0 : Int).toNat x.cps.size = 0 := by simp
  have e3 : Min.min ((2 : Int) ^ 63 - 1).toNat x.cps.size = x.cps.size := by
    have : x.cps.size ≤ 1000000 := hl
    have e : ((2 : Int) ^ 63 - 1).toNat = 9223372036854775807 := by decide
    rw [e]; omega
  rw [e1, e2, e3]
  unfold reAnswer
  obtain ⟨a1, a2, a3⟩ := search_says (nm := nm) (text := x.cps) fun i hi => hx _ (by
    have : x.cps.getD i 0 = x.cps[i] := by simp [Array.getD, hi]
    rw [this]; simp)
  refine wpAny_bind (run_ends a1 a2 a3 ?_)
  exact wpAny_pure ⟨_, rfl, q⟩

end Srch

section
variable {c : Cx} {r : Nat} {fx : Fx} {vs : Vis} {st : St}

theorem getM (O : Ok c) {ρ : Rho} {s : Shared} {b : Bm} {x : V} {u : Value} {pl : Sem Bool} {Q : Value × List Value → Shared → Prop} {E : Value → Shared → Prop} (R : RelF c fx ρ st s) (hu : VRep c.C ρ (Still s.heap (fx.mv ρ)) x u) (hb : bmAt c b x st)
    (q : Q (.builtin (bmId b), [u]) s) : wpAny (model c.prog c.w) fx.A (getMethod u b.name pl) Q E s := by
  cases b with
  | append =>
    cases x with
    | lst i =>
      obtain ⟨ds, e⟩ := hb
      obtain ⟨a, vs, n, e1, e2, hr⟩ := R.list e
      obtain ⟨p, e3, rfl⟩ := hu
      rw [e1] at e3; cases e3
      exact getMethod_list_of PySem.F.slot_list_append PySem.F.type_list_append (lst_is e2) ⟨_, e2, rfl⟩ q
    | _ => exact hb.elim
  | index =>
    obtain ⟨ds, rfl, _⟩ := lst1_inv hb
    obtain ⟨a, vs, n, rfl, p, hr⟩ := hu
    exact getMethod_list_of PySem.F.slot_list_index PySem.F.type_list_index (lst_is p.1) ⟨_, p.1, rfl⟩ q
  | search =>
    cases x with
    | pat nm a =>
      obtain ⟨i, y, hg⟩ := hb
      cases hu
      obtain ⟨v0, v1, l, n, h1, h2⟩ := O.pat _ _ _ _ hg
      have h1' := R.rel.base _ _ h1
      exact getMethod_builtin ⟨_, h1', rfl⟩ plainAttrs_pat slot_pat_search type_pat_search (fun a e => by cases e; exact ⟨_, h1', rfl⟩) q
    | _ => exact hb.elim
  | lower =>
    obtain ⟨y, rfl, _⟩ := str1_inv hb
    obtain ⟨t, rfl⟩ := hu
    show wpAny _ _ (getMethod _ "lower" pl) Q E s
    replace q : Q (.builtin "str.lower", [_]) s := q
    with_reducible exact GM.lower q
  | count =>
    obtain ⟨y, rfl, _⟩ := str1_inv hb
    obtain ⟨t, rfl⟩ := hu
    show wpAny _ _ (getMethod _ "count" pl) Q E s
    replace q : Q (.builtin "str.count", [_]) s := q
    with_reducible exact GM.count q
  | join =>
    obtain ⟨y, rfl, _⟩ := str1_inv hb
    obtain ⟨t, rfl⟩ := hu
    show wpAny _ _ (getMethod _ "join" pl) Q E s
    replace q : Q (.builtin "str.join", [_]) s := q
    with_reducible exact GM.join q

theorem keeps_bm {M : Model} {P : Heap → Prop} (b : Bm) (h : Heap) (X : P h) : ∃ k, (k = Keeper.frame ∨ k = Keeper.machine ∨ k = Keeper.boundFrame) ∧ Looks M h (keeperOf (.builtin (bmId b))) k := by
  cases b <;> exact ⟨_, .inr (.inl rfl), Looks.of_pure rfl⟩

theorem bm_all (O : Ok c) {b : Bm} {y : V} {xs : List V} {k : KV} {st0 : St} (hb : bmAt c b y st0) (h : bmS b y xs st k) : TO c fx (fun vs => call (.builtin (bmId b)) vs) (y :: xs) st k := by
  by_cases e : b = .search
  · subst e
    obtain ⟨nm, a, rfl⟩ : ∃ nm a, y = .pat nm a := by
      cases y with
      | pat nm a => exact ⟨nm, a, rfl⟩
      | _ => exact h.elim
    obtain ⟨z, rfl, h⟩ := one1_inv h
    obtain ⟨z, rfl, h⟩ := str1_inv h
    obtain ⟨i, x, hg⟩ := hb
    intro ρ s Q E vals R hv q
    obtain ⟨u, v, rfl, hu, ⟨t, rfl⟩⟩ := hv.two
    cases hu
    obtain ⟨v0, v1, l, n, h1, h2⟩ := O.pat _ _ _ _ hg
    refine search_none (nm := nm) ⟨v0, v1, l, n, R.rel.base _ _ h1, R.rel.base _ _ h2⟩ (fun ch hc => ?_) (by have := h.2.1; omega) (q _ _ _ _ _ R .refl .none h.2.2)
    have ht := h.1
    cases nm with
    | true => exact (Array.all_eq_true_iff_forall_mem.mp ht) ch (by simpa using hc)
    | false => exact (Array.all_eq_true_iff_forall_mem.mp ht) ch (by simpa using hc)
  · exact bmS_snd e h

/-- a built-in method's call -/
theorem TE_bm (O : Ok c) (ok : FxOk c r fx vs) {N : Nm} (hN : N.c = c) (hsup : ∀ i, (N.gl i == ("super" : Str)) = false) {b : Bm} {o : ME} {es : MEs} {p q : Pos} {k : KV}
    (hl : (p.endLine == q.line) = true) (hes : (toEs N es).length ≤ 20)
    (h : TE c fx (eval (toE N o) fx.env) st fun y st1 => bmAt c b y st1 ∧ TEs c fx (spliced (backTo q (starEach (toEs N es) fx.env))) st1 fun xs st2 => bmS b y xs st2 k) :
    TE c fx (eval (.Call (.Attribute (toE N o) b.name p) (toEs N es) [] q) fx.env) st k := by
  intro ρ s Q E R z
  refine method_call (kws := []) (fun Q' hq => attrBase hsup o _ hq) (form_ok (N := N) es none hes) hl (h ρ s _ _ R fun y st1 ρ1 u s1 R1 N1 r1 h1 => ?_)
  refine getM O R1 r1 h1.1 ?_
  refine callWith_of (P := fun _ => True) ?_ (keeps_bm b) ?_
  · rw [star_plain]; rfl
  refine evalArgs_go (star_plain' es) rfl ?_
  refine h1.2 ρ1 s1 _ _ R1 fun xs st2 ρ2 vals s2 R2 N2 r2 h2 => wpAny_pure ⟨trivial, ?_⟩
  exact bm_all O h1.1 h2 ρ2 s2 Q E (u :: vals) R2 (.cons (r1.nxt N2) r2) fun v st' ρ' val s' R' N' r' hk => z _ _ _ _ _ R' (N1.trans (N2.trans N')) r' hk
end


noncomputable def Fx.at (fx : Fx) (I : Addr) : Fx := { fx with av := I :: fx.av }
noncomputable def plainIt (n : String) : Bool := !["enumerate", "zip", "dict_itemiterator", "dict_reverseitemiterator", "odict_iterator", "itertools.zip_longest", "itertools.pairwise"].contains n

section
variable {c : Cx} {r : Nat} {fx : Fx} {vs : Vis} {st : St}

theorem Fx.mv_at {I : Addr} {ρ : Rho} {a : Addr} : a ∉ (fx.at I).mv ρ ↔ a ≠ I ∧ a ∉ fx.mv ρ := by
  simp only [Fx.mv, Fx.at, List.mem_append, List.mem_cons, not_or]
  constructor
  · rintro ⟨h1, h2, h3, h4⟩; exact ⟨h3, h1, h2, h4⟩
  · rintro ⟨h3, h1, h2, h4⟩; exact ⟨h1, h2, h3, h4⟩
theorem still_off {I : Addr} {ρ : Rho} {h : Heap} {a : Addr} {o : Obj} (x : Still h ((fx.at I).mv ρ) a o) : Still h (fx.mv ρ) a o := ⟨x.1, (Fx.mv_at.mp x.2).2⟩

/-- a new object, kept apart from now on -/
theorem RelF.at {ρ : Rho} {s s1 : Shared} {I : Addr} (R : RelF c fx ρ st s) (g : Grow s s1) (hn : s.heap.get? I = none) (hal : ∃ o, s1.heap.get? I = some o) : RelF c (fx.at I) ρ st s1 := by
  have hmv := R.not_mv hn
  have still : ∀ a o, Still s.heap (fx.mv ρ) a o → Still s1.heap ((fx.at I).mv ρ) a o := fun a o x => ⟨g.keep a o x.1, Fx.mv_at.mpr ⟨fun e => (by have := x.1; rw [e, hn] at this; cases this), x.2⟩⟩
  have R1 := R.grow g
  have hmv' : I ∉ ρ.addrs ∧ I ∉ fx.own ∧ I ∉ fx.av := by simpa [Fx.mv, not_or] using hmv
  have conv : ∀ a, a ∈ fx.own ++ (I :: fx.av) → a = I ∨ a ∈ fx.own ++ fx.av := fun a h => by
    simp only [List.mem_append, List.mem_cons] at h ⊢
    rcases h with h | h | h
    · exact .inr (.inl h)
    · exact .inl h
    · exact .inr (.inr h)
  refine { rel := { base := R1.rel.base, os := R1.rel.os, gens := R1.rel.gens, toks := R1.rel.toks, len := R1.rel.len, objs := ?_, apart := R1.rel.apart, off := ?_, fresh := ?_, avs := ?_ }, ns := R1.ns, lown := R.lown, slots := ?_, stos := R1.stos, alive := R1.alive, nss := R1.nss }
  · intro i p m e f
    exact (R.rel.objs i p m e f).mono (fun _ _ e => e) still (fun o => g.keep _ o) (fun o => g.keep _ o)
  · intro a ha hb
    rcases conv a hb with rfl | h
    · exact hmv'.1 ha
    · exact R.rel.off a ha h
  · intro a ha
    rcases ha with ha | ha
    · exact R.rel.fresh a (.inl ha)
    · rcases conv a ha with rfl | h
      · cases q : c.s0.heap.get? a with
        | none => rfl
        | some o => rw [R.rel.base a o q] at hn; cases hn
      · exact R.rel.fresh a (.inr h)
  · intro a ha
    rcases conv a ha with rfl | h
    · exact hal
    · exact R1.rel.avs a h
  · intro i v e
    obtain ⟨S, val, h1, h2, h3⟩ := R.slots i v e
    exact ⟨S, val, h1, h2.keeps fun o => g.keep _ o, h3.mono (fun _ _ e => e) still⟩

theorem RelF.off_at {ρ : Rho} {s : Shared} {I : Addr} (R : RelF c (fx.at I) ρ st s) : RelF c fx ρ st s where
  rel := { base := R.rel.base, os := R.rel.os, gens := R.rel.gens, toks := R.rel.toks, len := R.rel.len
           objs := fun i p m e f => (R.rel.objs i p m e f).mono (fun _ _ e => e) (fun _ _ => still_off) (fun _ e => e) (fun _ e => e)
           apart := R.rel.apart
           off := fun a ha hb => R.rel.off a ha (by simp only [Fx.at, List.mem_append, List.mem_cons] at hb ⊢; rcases hb with h | h; exact .inl h; exact .inr (.inr h))
           fresh := fun a ha => R.rel.fresh a (ha.imp _root_.id fun hb => by simp only [Fx.at, List.mem_append, List.mem_cons] at hb ⊢; rcases hb with h | h; exact .inl h; exact .inr (.inr h))
           avs := fun a hb => R.rel.avs a (by simp only [Fx.at, List.mem_append, List.mem_cons] at hb ⊢; rcases hb with h | h; exact .inl h; exact .inr (.inr h)) }
  ns := R.ns
  lown := R.lown
  slots := fun i v e => let ⟨S, val, h1, h2, h3⟩ := R.slots i v e; ⟨S, val, h1, h2, h3.mono (fun _ _ e => e) fun _ _ => still_off⟩
  stos := R.stos
  alive := R.alive
  nss := R.nss

theorem mem_av {I : Addr} : I ∈ (fx.at I).own ++ (fx.at I).av := by simp [Fx.at]
/-- the object kept apart turns -/
theorem RelF.turnAt {ρ : Rho} {s s' : Shared} {I : Addr} (R : RelF c (fx.at I) ρ st s) (hI : I ∉ fx.own) (hk : ∀ b o, b ≠ I → s.heap.get? b = some o → s'.heap.get? b = some o) (hal : ∃ o, s'.heap.get? I = some o)
    (os : s'.os = s.os) (gens : s'.gens = s.gens) (tk : s.toks ≤ s'.toks) : RelF c (fx.at I) ρ st s' := by
  have nI : I ∉ ρ.addrs := fun h => R.rel.off I h mem_av
  have still : ∀ a o, Still s.heap ((fx.at I).mv ρ) a o → Still s'.heap ((fx.at I).mv ρ) a o := fun a o x => ⟨hk a o (Fx.mv_at.mp x.2).1 x.1, x.2⟩
  have own : ∀ a ∈ fx.own, a ≠ I := fun a h e => hI (e ▸ h)
  have old : ∀ b o, c.s0.heap.get? b = some o → b ≠ I := fun b o e q => by subst q; rw [R.rel.fresh b (.inr mem_av)] at e; cases e
  refine { rel := { base := fun b o e => hk b o (old b o e) (R.rel.base b o e), os := os.trans R.rel.os, gens := gens.trans R.rel.gens, toks := fun h => Nat.lt_of_lt_of_le (R.rel.toks h) tk, len := R.rel.len, objs := ?_, apart := R.rel.apart, off := R.rel.off, fresh := R.rel.fresh, avs := ?_ }, ns := ?_, lown := R.lown, slots := ?_, stos := R.stos, alive := ?_, nss := ?_ }
  · intro i p m e f
    exact (R.rel.objs i p m e f).mono (fun _ _ e => e) still (fun o => hk _ o fun q => nI (Rho.mem_addrs.mpr ⟨i, p, e, .inl q.symm⟩)) (fun o => hk _ o fun q => nI (Rho.mem_addrs.mpr ⟨i, p, e, .inr q.symm⟩))
  · intro a ha
    by_cases q : a = I
    · subst q; exact hal
    · obtain ⟨o, e⟩ := R.rel.avs a ha; exact ⟨o, hk a o q e⟩
  · obtain ⟨m, hn⟩ := R.ns
    exact ⟨m, hn.at' fun o => hk _ o (own _ R.lown)⟩
  · intro i v e
    obtain ⟨S, val, h1, h2, h3⟩ := R.slots i v e
    exact ⟨S, val, h1, h2.keeps fun o => hk _ o (own _ (R.stos i S h1)), h3.mono (fun _ _ e => e) still⟩
  · intro i S e h
    obtain ⟨o, v, a, b⟩ := R.alive i S e h
    exact ⟨o, v, hk _ _ (own _ (R.stos i S e)) a, b⟩
  · intro i S e h
    obtain ⟨m, a⟩ := R.nss i S e h
    exact ⟨m, a.at' fun o => hk _ o (own _ (R.stos i S e))⟩

/-- the tracked list that is walked stands as it did -/
noncomputable def Tr (c : Cx) (ρ : Rho) (PP : ObjAt) (s : Shared) (o : Option (Nat × List D)) : Prop := match o with
  | none => True
  | some (j, ds) => ∃ a vs n, ρ[j]? = some (a, a) ∧ s.heap.get? a = some (lstObj vs n) ∧ Reps c.C PP ds vs
theorem RelF.tr {ρ : Rho} {s : Shared} {o : Option (Nat × List D)} (R : RelF c fx ρ st s) (h : stillL o st) : Tr c ρ (Still s.heap (fx.mv ρ)) s o := by
  cases o with
  | none => trivial
  | some x => exact R.list h

/-- how a walk over a value's items goes; `B`: what stood still when it began -/
structure Iter (c : Cx) (ρ0 : Rho) (B : ObjAt) (I : Addr) (o : Option (Nat × List D)) (xs : List V) (P : Nat → Heap → Prop) : Prop where
  frame : ∀ i h h', P i h → (∀ b ob, (b = I ∨ ∃ o', B b o') → h.get? b = some ob → h'.get? b = some ob) → P i h'
  cls : ∀ i h, P i h → ∃ ob n, h.get? I = some ob ∧ ob.cls = .type n ∧ plainIt n = true
  self : ∀ (A : Around), A.handled = none → ∀ i (s : Shared) (Q : Value → Shared → Prop) (E : Value → Shared → Prop), P i s.heap → Q (.ref I) s → wpAny (model c.prog c.w) A (pyIter (.ref I)) Q E s
  item : ∀ A ρ PP s Q E i, A.handled = none → (∀ (j : Nat) p, ρ0[j]? = some p → ρ[j]? = some p) → (∀ a ob, B a ob → PP a ob) → Tr c ρ PP s o → P i s.heap → i < xs.length →
    (∀ v x h' tk, P (i + 1) h' → (∀ b ob, b ≠ I → s.heap.get? b = some ob → h'.get? b = some ob) → xs[i]? = some x → VRep c.C ρ PP x v → Q (some v) { s with heap := h', toks := tk }) →
    wpAny (model c.prog c.w) A (pyNext (.ref I)) Q E s
  done : ∀ A ρ PP s Q E, A.handled = none → (∀ (j : Nat) p, ρ0[j]? = some p → ρ[j]? = some p) → (∀ a ob, B a ob → PP a ob) → Tr c ρ PP s o → P xs.length s.heap →
    (∀ h' tk, (∀ b ob, b ≠ I → s.heap.get? b = some ob → h'.get? b = some ob) → Q none { s with heap := h', toks := tk }) →
    wpAny (model c.prog c.w) A (pyNext (.ref I)) Q E s

theorem Iter.move {ρ0 : Rho} {B B' : ObjAt} {I : Addr} {o : Option (Nat × List D)} {xs : List V} {P : Nat → Heap → Prop} (x : Iter c ρ0 B I o xs P) (h : ∀ a ob, B a ob → B' a ob) : Iter c ρ0 B' I o xs P where
  frame := fun i h1 h2 p k => x.frame i h1 h2 p fun b ob hb => k b ob (hb.imp _root_.id fun ⟨o', e⟩ => ⟨o', h _ _ e⟩)
  cls := x.cls
  self := x.self
  item := fun A ρ PP s Q E i hh pre hB => x.item A ρ PP s Q E i hh pre fun a ob e => hB a ob (h a ob e)
  done := fun A ρ PP s Q E hh pre hB => x.done A ρ PP s Q E hh pre fun a ob e => hB a ob (h a ob e)

theorem Iter.ofWalks {ρ0 : Rho} {B : ObjAt} {I : Addr} {xs : List V} {fp : List Addr} {P : Nat → Value → Prop} {St : Nat → Heap → Prop} (W : ∀ A : Around, A.handled = none → Walks c.prog c.w A I fp [I] xs.length P St)
    (hfp : ∀ b ∈ fp, b = I ∨ ∃ o', B b o') (hP : ∀ i v, P i v → i < xs.length → ∃ x, xs[i]? = some x ∧ VRep c.C ρ0 B x v)
    (hc : ∀ i h, St i h → ∃ ob n, h.get? I = some ob ∧ ob.cls = .type n ∧ plainIt n = true) : Iter c ρ0 B I none xs St where
  frame := fun i h h' x k => (W {} rfl).frame i h h' x fun b hb o e => k b o (hfp b hb) e
  cls := hc
  self := fun A hh i s Q E h q => (W A hh).self i s Q E h q
  item := fun A ρ PP s Q E i hh pre still _ hst hi q => (W A hh).item i s Q E hi hst fun v h' tk hp hst' hk => by
    obtain ⟨x, e, rx⟩ := hP i v hp hi
    exact q v x h' tk hst' (fun b ob hb => hk b ob (by simpa using hb)) e (rx.mono pre still)
  done := fun A ρ PP s Q E hh pre still _ hst q => (W A hh).done s Q E hst fun h' tk hk => q h' tk fun b ob hb => hk b ob (by simpa using hb)

theorem Iter.tracked {ρ0 : Rho} {B : ObjAt} {I ax : Addr} {j : Nat} {ds : List D} (hj : ρ0[j]? = some (ax, ax)) : Iter c ρ0 B I (some (j, ds)) (ds.map .d) (fun i h => h.IsListIter I ax i) where
  frame := fun i h h' x k => x.at fun o e => k I o (.inl rfl) e
  cls := fun i h x => let ⟨o, e, a, _⟩ := x; ⟨o, "list_iterator", e, a, rfl⟩
  self := fun A _ i s Q E h q => wpAny_pyIter_listiter h q
  item := fun A ρ PP s Q E i hh pre still hs hst hi q => by
    obtain ⟨a, vs, n, e1, e2, hr⟩ := hs
    rw [pre j _ hj] at e1; cases e1
    simp only [List.length_map] at hi
    have hv : i < vs.length := by rw [hr.length]; exact hi
    refine wpAny_pyNext_list_item hst (lst_is e2) (x := vs[i]) (by simp [hv]) fun h' hit' hs' => ?_
    obtain ⟨v, e, rx⟩ := hr.get (List.getElem?_eq_getElem hi)
    have e' : vs[i] = v := by rw [List.getElem?_eq_getElem hv] at e; exact Option.some.inj e
    rw [e']
    exact q v (.d ds[i]) h' s.toks hit' (fun b ob hb eb => (hs'.2 b hb).trans eb) (by simp [hi]) rx
  done := fun A ρ PP s Q E hh pre still hs hst q => by
    obtain ⟨a, vs, n, e1, e2, hr⟩ := hs
    rw [pre j _ hj] at e1; cases e1
    refine wpAny_pyNext_list_end hh hst (lst_is e2) (by simp [hr.length]) fun h' he => q h' s.toks fun b ob hb e => he b ob hb e

theorem rep_items {C : Addr} {ρ : Rho} {P : ObjAt} {ds : List D} {vs : List Value} (hr : Reps C P ds vs) (i : Nat) (v : Value) (h : vs.toArray[i]? = some v) (hi : i < (ds.map V.d).length) : ∃ x, (ds.map V.d)[i]? = some x ∧ VRep C ρ P x v := by
  simp only [List.length_map] at hi
  obtain ⟨u, e, rx⟩ := hr.get (List.getElem?_eq_getElem hi)
  have : vs[i]? = some v := by simpa using h
  rw [this] at e; cases e
  exact ⟨.d ds[i], by simp [hi], rx⟩

theorem iter_start {A : Around} {ρ : Rho} {s : Shared} {x : V} {u : Value} {xs : List V} {o : Option (Nat × List D)} {Q : Value → Shared → Prop} {E : Value → Shared → Prop} (R : RelF c fx ρ st s) (hu : VRep c.C ρ (Still s.heap (fx.mv ρ)) x u) (hx : itemsOf st x = some (xs, o))
    (q : ∀ I s1 P, s.heap.get? I = none → Grow s s1 → (∃ o, s1.heap.get? I = some o) → Iter c ρ (Still s1.heap ((fx.at I).mv ρ)) I o xs P → P 0 s1.heap → Q (.ref I) s1) : wpAny (model c.prog c.w) A (pyIter u) Q E s := by
  have fresh := get_end s.heap
  have ne : ∀ a ob, s.heap.get? a = some ob → a ≠ s.heap.objs.size := fun a ob e q => by rw [q, fresh] at e; cases e
  have st' : ∀ (ob : Obj) a o, Still s.heap (fx.mv ρ) a o → Still (s.heap.push ob) ((fx.at s.heap.objs.size).mv ρ) a o := fun ob a o x => ⟨Heap.get?_push_of_some _ x.1, Fx.mv_at.mpr ⟨ne a o x.1, x.2⟩⟩
  unfold itemsOf at hx
  split at hx
  · cases hx
    obtain ⟨a, vs, n, rfl, p, hr⟩ := hu
    have W : ∀ A' : Around, A'.handled = none → Walks c.prog c.w A' s.heap.objs.size [s.heap.objs.size, a] [s.heap.objs.size] (List.map V.d _).length (fun i v => vs.toArray[i]? = some v) (fun i h => h.IsListIter s.heap.objs.size a i ∧ h.IsList a vs.toArray) := fun A' hA => by
      rw [List.length_map, ← hr.length]
      exact Walks.list (prog := c.prog) (w := c.w) hA s.heap.objs.size a (ne a _ p.1) vs.toArray
    refine wpAny_pyIter_list (lst_is p.1) (q _ _ _ fresh .push ⟨_, Heap.get?_push_size _ rfl⟩ (Iter.ofWalks W (fun b hb => ?_) (fun i v hv hi => ?_) ?_) ⟨⟨_, Heap.get?_push_size _ rfl, rfl, rfl⟩, (lst_is p.1).push _⟩)
    · simp only [List.mem_cons, List.not_mem_nil, or_false] at hb
      rcases hb with rfl | rfl
      · exact .inl rfl
      · exact .inr ⟨_, st' _ _ _ p⟩
    · exact rep_items (hr.mono (st' _)) i v hv hi
    · exact fun i h x => let ⟨o, e, a, _⟩ := x.1; ⟨o, "list_iterator", e, a, rfl⟩
  · cases hx
    obtain ⟨a, vs, n, rfl, p, hr⟩ := hu
    have hT : s.heap.IsTuple a vs.toArray := ⟨_, p.1, rfl, n, rfl⟩
    have W : ∀ A' : Around, A'.handled = none → Walks c.prog c.w A' s.heap.objs.size [s.heap.objs.size, a] [s.heap.objs.size] (List.map V.d _).length (fun i v => vs.toArray[i]? = some v) (fun i h => h.IsTupleIter s.heap.objs.size a i ∧ h.IsTuple a vs.toArray) := fun A' hA => by
      rw [List.length_map, ← hr.length]
      exact Walks.tuple (prog := c.prog) (w := c.w) hA s.heap.objs.size a (ne a _ p.1) vs.toArray
    refine wpAny_pyIter_tuple hT (q _ _ _ fresh .push ⟨_, Heap.get?_push_size _ rfl⟩ (Iter.ofWalks W (fun b hb => ?_) (fun i v hv hi => ?_) ?_) ⟨⟨_, Heap.get?_push_size _ rfl, rfl, rfl⟩, hT.push _⟩)
    · simp only [List.mem_cons, List.not_mem_nil, or_false] at hb
      rcases hb with rfl | rfl
      · exact .inl rfl
      · exact .inr ⟨_, st' _ _ _ p⟩
    · exact rep_items (hr.mono (st' _)) i v hv hi
    · exact fun i h x => let ⟨o, e, a, _⟩ := x.1; ⟨o, "tuple_iterator", e, a, rfl⟩
  · rename_i a b d
    split at hx
    · rename_i hd
      cases hx
      obtain ⟨ra, t1, t2, t3, rfl, p⟩ := hu
      have hl : ((rangeL a b d).map fun i => V.d (.int i)).length = rangeLen a b d := by simp [rangeL]
      have hP : ∀ i v, (∃ t, v = Value.int (a + (i : Nat) * d) t) → i < ((rangeL a b d).map fun i => V.d (.int i)).length → ∀ P, ∃ x, ((rangeL a b d).map fun i => V.d (.int i))[i]? = some x ∧ VRep c.C ρ P x v := fun i v ⟨t, e⟩ hi P => by
        rw [hl] at hi
        refine ⟨.d (.int (a + d * (i : Int))), ?_, t, by rw [e, Int.mul_comm]⟩
        rw [rangeL, List.map_map, List.getElem?_map, List.getElem?_range hi]
        rfl
      cases hsm : Builtin.Range.small a b d with
      | true =>
        refine wpAny_pyIter_range p.1 hsm (q _ _ _ fresh .push ⟨_, Heap.get?_push_size _ rfl⟩ (Iter.ofWalks (fun A' hA => by rw [hl]; exact Walks.range (prog := c.prog) (w := c.w) hA s.heap.objs.size a d (rangeLen a b d)) (fun b hb => .inl (by simpa using hb)) (fun i v hv hi => hP i v hv hi _) ?_) ?_)
        · exact fun i h x => ⟨_, "range_iterator", x, rfl, rfl⟩
        · show IsRangeIter _ _ _ _ _
          rw [rangeSize_len hd]; simpa using Heap.get?_push_size _ rfl
      | false =>
        refine wpAny_pyIter_longrange p.1 hsm (q _ _ _ fresh .push ⟨_, Heap.get?_push_size _ rfl⟩ (Iter.ofWalks (fun A' hA => by rw [hl]; exact Walks.longrange (prog := c.prog) (w := c.w) hA s.heap.objs.size a d (rangeLen a b d)) (fun b hb => .inl (by simpa using hb)) (fun i v hv hi => hP i v hv hi _) ?_) ?_)
        · exact fun i h x => ⟨_, "longrange_iterator", x, rfl, rfl⟩
        · show IsLongIter _ _ _ _ _
          rw [rangeSize_len hd]; simpa using Heap.get?_push_size _ rfl
    · cases hx
  · rename_i tx
    cases hx
    obtain ⟨t, rfl⟩ := hu
    have hl : (tx.cps.toList.map fun ch => V.d (.str ⟨#[ch]⟩)).length = tx.cps.size := by simp
    have hP : ∀ i v, PySem.SignAt tx i v → ∀ P, ∃ x, (tx.cps.toList.map fun ch => V.d (.str ⟨#[ch]⟩))[i]? = some x ∧ VRep c.C ρ P x v := fun i v ⟨ch, t, e1, e2⟩ P => ⟨.d (.str ⟨#[ch]⟩), by simp [e1], t, e2⟩
    cases ha : tx.cps.all (· < 128) with
    | true =>
      have W : ∀ A' : Around, A'.handled = none → Walks c.prog c.w A' s.heap.objs.size [s.heap.objs.size] [s.heap.objs.size] (tx.cps.toList.map fun ch => V.d (.str ⟨#[ch]⟩)).length (PySem.SignAt tx) (fun i h => h.IsStrIter s.heap.objs.size "str_ascii_iterator" tx t i) := fun A' hA => by
        rw [hl]; exact Walks.strAscii (prog := c.prog) (w := c.w) hA s.heap.objs.size tx t
      refine wpAny_pyIter_ascii ha (q _ _ _ fresh .push ⟨_, Heap.get?_push_size _ rfl⟩ (Iter.ofWalks W (fun b hb => .inl (by simpa using hb)) (fun i v hv hi => hP i v hv _) ?_) ⟨_, Heap.get?_push_size _ rfl, rfl, rfl⟩)
      exact fun i h x => let ⟨o, e, a, _⟩ := x; ⟨o, "str_ascii_iterator", e, a, rfl⟩
    | false =>
      have W : ∀ A' : Around, A'.handled = none → Walks c.prog c.w A' s.heap.objs.size [s.heap.objs.size] [s.heap.objs.size] (tx.cps.toList.map fun ch => V.d (.str ⟨#[ch]⟩)).length (PySem.SignAt tx) (fun i h => h.IsStrIter s.heap.objs.size "str_iterator" tx t i) := fun A' hA => by
        rw [hl]; exact Walks.strWide (prog := c.prog) (w := c.w) hA s.heap.objs.size tx t
      refine wpAny_pyIter_wide ha (q _ _ _ fresh .push ⟨_, Heap.get?_push_size _ rfl⟩ (Iter.ofWalks W (fun b hb => .inl (by simpa using hb)) (fun i v hv hi => hP i v hv _) ?_) ⟨_, Heap.get?_push_size _ rfl, rfl, rfl⟩)
      exact fun i h x => let ⟨o, e, a, _⟩ := x; ⟨o, "str_iterator", e, a, rfl⟩
  · split at hx
    · rename_i e0
      cases hx
      obtain ⟨a, vs, n, e1, e2, hr⟩ := R.list e0
      obtain ⟨p, e3, rfl⟩ := hu
      rw [e1] at e3; cases e3
      exact wpAny_pyIter_list (lst_is e2) (q _ _ _ fresh .push ⟨_, Heap.get?_push_size _ rfl⟩ (Iter.tracked e1) ⟨_, Heap.get?_push_size _ rfl, rfl, rfl⟩)
    · cases hx
  · cases hx
end


section
variable {c : Cx} {r : Nat} {fx : Fx} {vs : Vis} {st : St}

theorem letgo_plain {M : Model} {A : Around} {E : Value → Shared → Prop} {s : Shared} {target : Expr} {I : Addr} {v : Value} {ob : Obj} {n : String} {Q : Unit → Shared → Prop} (h1 : s.heap.get? I = some ob) (hc : ob.cls = .type n) (hp : plainIt n = true) (q : Q () s) :
    wpAny M A (letOwnedTupleGo target (.ref I) v) Q E s := by
  have key : ∀ a, wpAny M A (do
      let o ← load I
      match o.cls, o.data with
      | .type n, .fields vs =>
        if ["enumerate", "zip", "dict_itemiterator", "dict_reverseitemiterator", "odict_iterator", "itertools.zip_longest", "itertools.pairwise"].contains n && vs[0]? == some (rawInt a) then
          rule "for.unpacks-the-owned-tuple"
          updateField I 0 .none
      | _, _ => pure ()) Q E s := fun a => by
    refine wpAny_bind (wpAny_load h1 ?_)
    rw [hc]
    have hp' : ["enumerate", "zip", "dict_itemiterator", "dict_reverseitemiterator", "odict_iterator", "itertools.zip_longest", "itertools.pairwise"].contains n = false := by
      unfold plainIt at hp; simpa using hp
    cases ob.data <;> first
      | exact wpAny_pure q
      | (dsimp only; rw [hp', Bool.false_and, if_neg Bool.false_ne_true]; exact wpAny_pure q)
  unfold letOwnedTupleGo
  cases target <;> first
    | exact wpAny_pure q
    | (cases v <;> first | exact key _ | exact wpAny_pure q)

noncomputable def nameEs (N : Nm) (is : List (Nat × Pos)) : List Expr := is.map fun x => .Name (N.sl x.1) x.2
theorem assignEach_names {N : Nm} {env : Env} : ∀ is : List (Nat × Pos), assignEach (nameEs N is) env = is.map fun x => (false, assign (.Name (N.sl x.1) x.2) env)
  | [] => rfl
  | x :: is => by
    show (false, assign (.Name (N.sl x.1) x.2) env) :: assignEach (nameEs N is) env = _
    rw [assignEach_names is]; rfl

theorem setAll_snd (ok : FxOk c r fx vs) {N : Nm} (hN : N.sl = fx.nm) : ∀ (is : List (Nat × Pos)) (xs : List V) (st : St) (k : St → Prop) (hs : ∀ x ∈ is, x.1 ∈ vs.stores) (h : setAll (is.map (·.1)) xs st k) (ρ : Rho) (s : Shared) (Q : Unit → Shared → Prop) (E : Value → Shared → Prop) (vals : List Value),
    RelF c fx ρ st s → VReps c.C ρ (Still s.heap (fx.mv ρ)) xs vals → (∀ st' ρ' s', RelF c fx ρ' st' s' → Nxt fx.own ρ s ρ' s' → k st' → Q () s') →
    wpAny (model c.prog c.w) fx.A (assignInOrder (is.map fun x => assign (.Name (N.sl x.1) x.2) fx.env) vals) Q E s
  | [], [], st, k, hs, h, ρ, s, Q, E, vals, R, hv, q => wpAny_pure (q _ _ _ R .refl h)
  | [], _ :: _, _, _, _, h, _, _, _, _, _, _, _, _ => h.elim
  | _ :: _, [], _, _, _, h, _, _, _, _, _, _, _, _ => h.elim
  | i :: is, x :: xs, st, k, hs, h, ρ, s, Q, E, vals, R, hv, q => by
    obtain ⟨v, vr, rfl, r1, r2⟩ := hv
    obtain ⟨h1, h2⟩ := h
    show wpAny _ _ (do holding vr (assign (.Name (N.sl i.1) i.2) fx.env v); assignInOrder (is.map fun x => assign (.Name (N.sl x.1) x.2) fx.env) vr) Q E s
    rw [hN]
    refine wpAny_bind (wpAny_holding (TOst_name ok (hs i (List.mem_cons_self ..)) h1 (k := fun st1 => setAll (is.map (·.1)) xs st1 k) h2 ρ s _ _ v R r1 fun st1 ρ1 s1 R1 N1 hk => ?_))
    have := setAll_snd ok hN is xs st1 k (fun x hx => hs x (List.mem_cons_of_mem _ hx)) hk ρ1 s1 Q E vr R1 (r2.nxt N1) fun st' ρ' s' R' N' hk' => q st' ρ' s' R' (N1.trans N') hk'
    rw [hN] at this
    exact this

theorem setAll_len : ∀ {is : List Nat} {xs : List V} {st : St} {k : St → Prop}, setAll is xs st k → is.length = xs.length
  | [], [], _, _, _ => rfl
  | [], _ :: _, _, _, h => h.elim
  | _ :: _, [], _, _, h => h.elim
  | _ :: is, _ :: xs, _, _, h => by rw [List.length_cons, List.length_cons, setAll_len h.2]

theorem reps_d {C : Addr} {ρ : Rho} {P : ObjAt} : ∀ {ds : List D} {vs : List Value}, Reps C P ds vs → VReps C ρ P (ds.map .d) vs
  | [], _, h => h
  | _ :: _, _, ⟨v, r, e, x, y⟩ => ⟨v, r, e, x, reps_d y⟩

/-- the names of a tuple target are set -/
theorem unp_snd (ok : FxOk c r fx vs) {N : Nm} (hN : N.sl = fx.nm) {is : List (Nat × Pos)} {kk : Nat} {p : Pos} {ds : List D} {k : St → Prop} (hs : ∀ x ∈ is, x.1 ∈ vs.stores) (h : setAll (is.map (·.1)) (ds.map .d) st k) :
    TOst c fx (assign (.Tuple (nameEs N is) kk p) fx.env) (.d (.tup ds)) st k := by
  intro ρ s Q E val R hv q
  obtain ⟨a, us, n, rfl, pa, hr⟩ := hv
  have hl : is.length = us.length := by have := setAll_len h; simp at this; rw [this, hr.length]
  have fresh := get_end s.heap
  refine wpAny_assign_Tuple ok.room.handled (items := us.toArray) ⟨_, pa.1, rfl, n, rfl⟩ (by rw [assignEach_names]; simp [hl]) (by rw [assignEach_names]; simp [List.findIdx?_map, Function.comp_def]) fun h' he => ?_
  have hk : ∀ b o, s.heap.get? b = some o → h'.get? b = some o := fun b o e => he b o (fun q => by rw [q, fresh] at e; cases e) e
  have g : Grow s { s with heap := h' } := ⟨hk, rfl, rfl, Nat.le_refl _⟩
  rw [assignEach_names]
  have := setAll_snd ok hN is (ds.map .d) st k hs h ρ { s with heap := h' } Q E us (R.grow g) (reps_d (hr.mono (still_grow g))) fun st' ρ' s' R' N' hk' => q st' ρ' s' R' (g.nxt.trans N') hk'
  simpa [List.map_map, Function.comp_def] using this

noncomputable def tgtSlots : MT → List Nat
  | .nm i _ => [i]
  | .tup is _ _ => is.map (·.1)
theorem bind_snd (ok : FxOk c r fx vs) {N : Nm} (hN : N.sl = fx.nm) {t : MT} {x : V} {k : St → Prop} (hs : ∀ i ∈ tgtSlots t, i ∈ vs.stores) (h : bindT t x st k) : TOst c fx (assign (toT N t) fx.env) x st k := by
  cases t with
  | nm i p =>
    have := TOst_name ok (p := p) (hs i (List.mem_singleton.mpr rfl)) h.1 h.2
    rw [← hN] at this
    exact this
  | tup is kk p =>
    unfold bindT at h
    dsimp only at h
    split at h
    · exact unp_snd ok hN (fun x hx => hs _ (List.mem_map.mpr ⟨x, hx, rfl⟩)) h
    · exact h.elim

theorem FxOk.at (ok : FxOk c r fx vs) {I : Addr} : FxOk c r (fx.at I) vs :=
  ⟨ok.kind, ok.globals, ok.builtins, ok.slot, ok.store, ok.glob, ok.inj, ok.room, ok.free, ok.loc⟩

theorem stillAt {own av : List Addr} {ρ ρ' : Rho} {s s' : Shared} {I : Addr} (N : Nxt (I :: own) ρ s ρ' s') : ∀ a o, Still s.heap (ρ.addrs ++ (own ++ (I :: av))) a o → Still s'.heap (ρ'.addrs ++ (own ++ (I :: av))) a o := fun a o x => by
  have e : ∀ ρ : Rho, a ∉ ρ.addrs ++ (own ++ (I :: av)) ↔ a ∉ ρ.addrs ++ ((I :: own) ++ av) := fun ρ => by
    simp only [List.mem_append, List.mem_cons, List.cons_append, not_or]
    constructor
    · rintro ⟨h1, h2, h3, h4⟩; exact ⟨h1, h3, h2, h4⟩
    · rintro ⟨h1, h3, h2, h4⟩; exact ⟨h1, h2, h3, h4⟩
  have := N.still (av := av) a o ⟨x.1, (e ρ).mp x.2⟩
  exact ⟨this.1, (e ρ').mpr this.2⟩
theorem forK_still {o : Option (Nat × List D)} {t : MT} {B : St → KF → Prop} {xs : List V} {k : KF} (h : forK o t B xs st k) : stillL o st := by
  cases xs with
  | nil => exact h.1
  | cons x xs => exact h.1

theorem FRep.mono {C : Addr} {ρ : Rho} {P P' : ObjAt} (h : ∀ a o, P a o → P' a o) {f : FV} {fl : Flow} (x : FRep C ρ P f fl) : FRep C ρ P' f fl := by
  cases f with
  | next => exact x
  | brk => exact x
  | cont => exact x
  | ret v => obtain ⟨val, e, r⟩ := x; exact ⟨val, e, r.mono (fun _ _ e => e) h⟩

/-- the object kept apart is left behind -/
theorem RelF.leave {ρ : Rho} {s s' : Shared} {I : Addr} (R : RelF c (fx.at I) ρ st s) (hI : I ∉ fx.own) (hI2 : I ∉ fx.av) (hk : ∀ b o, b ≠ I → s.heap.get? b = some o → s'.heap.get? b = some o)
    (os : s'.os = s.os) (gens : s'.gens = s.gens) (tk : s.toks ≤ s'.toks) : RelF c fx ρ st s' := by
  have nI : I ∉ ρ.addrs := fun h => R.rel.off I h mem_av
  have still : ∀ a o, Still s.heap ((fx.at I).mv ρ) a o → Still s'.heap (fx.mv ρ) a o := fun a o x => ⟨hk a o (Fx.mv_at.mp x.2).1 x.1, (Fx.mv_at.mp x.2).2⟩
  have own : ∀ a ∈ fx.own, a ≠ I := fun a h e => hI (e ▸ h)
  have old : ∀ b o, c.s0.heap.get? b = some o → b ≠ I := fun b o e q => by subst q; rw [R.rel.fresh b (.inr mem_av)] at e; cases e
  have sub : ∀ a, a ∈ fx.own ++ fx.av → a ∈ (fx.at I).own ++ (fx.at I).av := fun a hb => by simp only [Fx.at, List.mem_append, List.mem_cons] at hb ⊢; rcases hb with h | h; exact .inl h; exact .inr (.inr h)
  refine { rel := { base := fun b o e => hk b o (old b o e) (R.rel.base b o e), os := os.trans R.rel.os, gens := gens.trans R.rel.gens, toks := fun h => Nat.lt_of_lt_of_le (R.rel.toks h) tk, len := R.rel.len, objs := ?_, apart := R.rel.apart, off := fun a ha hb => R.rel.off a ha (sub a hb), fresh := fun a ha => R.rel.fresh a (ha.imp _root_.id (sub a)), avs := ?_ }, ns := ?_, lown := R.lown, slots := ?_, stos := R.stos, alive := ?_, nss := ?_ }
  · intro i p m e f
    exact (R.rel.objs i p m e f).mono (fun _ _ e => e) still (fun o => hk _ o fun q => nI (Rho.mem_addrs.mpr ⟨i, p, e, .inl q.symm⟩)) (fun o => hk _ o fun q => nI (Rho.mem_addrs.mpr ⟨i, p, e, .inr q.symm⟩))
  · intro a ha
    obtain ⟨o, e⟩ := R.rel.avs a (sub a ha)
    refine ⟨o, hk a o (fun q => ?_) e⟩
    rcases List.mem_append.mp ha with h | h
    · exact own a h q
    · exact hI2 (q ▸ h)
  · obtain ⟨m, hn⟩ := R.ns
    exact ⟨m, hn.at' fun o => hk _ o (own _ R.lown)⟩
  · intro i v e
    obtain ⟨S, val, h1, h2, h3⟩ := R.slots i v e
    exact ⟨S, val, h1, h2.keeps fun o => hk _ o (own _ (R.stos i S h1)), h3.mono (fun _ _ e => e) still⟩
  · intro i S e h
    obtain ⟨o, v, a, b⟩ := R.alive i S e h
    exact ⟨o, v, hk _ _ (own _ (R.stos i S e)) a, b⟩
  · intro i S e h
    obtain ⟨m, a⟩ := R.nss i S e h
    exact ⟨m, a.at' fun o => hk _ o (own _ (R.stos i S e))⟩

theorem Nxt.leave {own : List Addr} {ρ ρ' : Rho} {s s' s'' : Shared} {I : Addr} (N : Nxt own ρ s ρ' s') (hn : s.heap.get? I = none) (hk : ∀ b o, b ≠ I → s'.heap.get? b = some o → s''.heap.get? b = some o) : Nxt own ρ s ρ' s'' where
  keep := fun b o h1 h2 e => hk b o (fun q => by rw [q, hn] at e; cases e) (N.keep b o h1 h2 e)
  alive := fun b e => by
    cases q : s.heap.get? b with
    | none => rfl
    | some ob =>
      cases q' : s'.heap.get? b with
      | none => have := N.alive b q'; rw [q] at this; cases this
      | some ob' => rw [hk b ob' (fun z => by rw [z, hn] at q; cases q) q'] at e; cases e
  pre := N.pre
  new := N.new

/-- a for over a value's items -/
theorem TS_for (ok : FxOk c r fx vs) {N : Nm} (hN : N.sl = fx.nm) {t : MT} {it : ME} {body : List Stmt} {p : Pos} {B : St → KF → Prop} {k : KF} (hs : ∀ i ∈ tgtSlots t, i ∈ vs.stores) (hf : ∀ x, foldedSetIterable (toE N it) fx.env x = pure x)
    (hB : ∀ I st k, B st k → TS c (fx.at I) (execs body fx.env) st k)
    (h : TE c fx (eval (toE N it) fx.env) st fun x st1 => match itemsOf st1 x with
      | some (xs, o) => forK o t B xs st1 k
      | none => False) : TS c fx (exec (.For (toT N t) (toE N it) body [] p) fx.env) st k := by
  intro ρ s Q E R z
  refine wpAny_For (h ρ s _ _ R fun x st1 ρ1 u s1 R1 N1 r1 h1 => ?_) hf
  dsimp only at h1
  split at h1
  · rename_i xs o hx
    refine iter_start R1 r1 hx fun I s2 P hn g hal it0 p0 => ?_
    have R2 := R1.at g hn hal
    have nI : I ∉ fx.own := fun hI => by obtain ⟨ob, e⟩ := R1.rel.avs I (List.mem_append.mpr (.inl hI)); rw [hn] at e; cases e
    refine codeAny_forLoop_any (fun n s' => ∃ i ρ' st', n = xs.length + 1 - i ∧ i ≤ xs.length ∧ RelF c (fx.at I) ρ' st' s' ∧ Nxt (I :: fx.own) ρ1 s2 ρ' s' ∧ P i s'.heap ∧ forK o t B (xs.drop i) st' k) (fun n s' hI => ?_) (xs.length + 1) ⟨0, ρ1, st1, rfl, Nat.zero_le _, R2, .refl, p0, h1⟩
    obtain ⟨i, ρ', st', rfl, hi, R', N', pi, hk⟩ := hI
    have still := stillAt (av := fx.av) N'
    have fin : ∀ {f : FV} {fl : Flow} {ρ3 : Rho} {st3 : St} {s3 : Shared}, RelF c (fx.at I) ρ3 st3 s3 → Nxt (I :: fx.own) ρ1 s2 ρ3 s3 → FRep c.C ρ3 (Still s3.heap ((fx.at I).mv ρ3)) f fl → k f st3 → Q fl s3 := fun {f fl ρ3 st3 s3} R3 N3 f3 hk3 =>
      z f st3 ρ3 fl s3 R3.off_at (N1.trans ((g.nxt.trans N3).less fun a ha => by
        rcases List.mem_cons.mp ha with rfl | ha
        · exact .inr hn
        · exact .inl ha)) (f3.mono fun _ _ => still_off) hk3
    have hal' : ∃ ob, s'.heap.get? I = some ob := let ⟨ob, _, e, _⟩ := it0.cls i _ pi; ⟨ob, e⟩
    by_cases hlt : i < xs.length
    · refine withT (it0.item fx.A ρ' _ s' _ _ i ok.room.handled N'.pre still (R'.tr (forK_still hk)) pi hlt fun v x h' tk pn hkeep hxi rx ht => ?_)
      obtain ⟨ob, nm, eo, ec, ep⟩ := it0.cls (i + 1) h' pn
      have Rn : RelF c (fx.at I) ρ' st' { s' with heap := h', toks := tk } := R'.turnAt nI hkeep ⟨ob, eo⟩ rfl rfl ht
      have Nn : Nxt (I :: fx.own) ρ' s' ρ' { s' with heap := h', toks := tk } :=
        { keep := fun b ob _ hb e => hkeep b ob (fun q => hb (q ▸ List.mem_cons_self ..)) e
          alive := fun b e => by
            cases q : s'.heap.get? b with
            | none => rfl
            | some ob2 =>
              by_cases hb : b = I
              · subst hb; rw [eo] at e; cases e
              · rw [hkeep b ob2 hb q] at e; cases e
          pre := fun _ _ e => e
          new := fun _ h n => (n h).elim }
      have rx' : VRep c.C ρ' (Still h' ((fx.at I).mv ρ')) x v := rx.mono (fun _ _ e => e) fun a ob x => ⟨hkeep a ob (Fx.mv_at.mp x.2).1 x.1, x.2⟩
      refine letgo_plain (ob := ob) (n := nm) eo ec ep ?_
      rw [List.drop_eq_getElem_cons hlt] at hk
      have ex : xs[i] = x := by rw [List.getElem?_eq_getElem hlt] at hxi; exact Option.some.inj hxi
      rw [ex] at hk
      refine bind_snd ok.at hN hs hk.2 ρ' { s' with heap := h', toks := tk } _ _ v Rn rx' fun st3 ρ3 s3 R3 N3 hb3 => ?_
      refine hB I _ _ hb3 ρ3 s3 _ _ R3 fun f st4 ρ4 fl s4 R4 N4 f4 hk4 => ?_
      have more : ∀ {ρ s ρ' s'}, Nxt (fx.at I).own ρ s ρ' s' → Nxt (I :: fx.own) ρ s ρ' s' := fun N => N.more fun a ha => List.mem_cons_of_mem _ ha
      have N5 := N'.trans (Nn.trans ((more N3).trans (more N4)))
      have pn4 : P (i + 1) s4.heap := it0.frame (i + 1) h' s4.heap pn fun b ob2 hb e => by
        have nb : b ∉ ρ'.addrs ∧ b ∉ fx.own := by
          rcases hb with rfl | ⟨o', hs'⟩
          · exact ⟨fun h => R'.rel.off _ h mem_av, nI⟩
          · have := (still b o' hs').2
            simp only [Fx.mv, Fx.at, List.mem_append, not_or] at this
            exact ⟨this.1, this.2.1⟩
        exact ((N3.trans N4).keep b ob2 nb.1 nb.2 e)
      cases f with
      | next => cases f4; exact ⟨xs.length + 1 - (i + 1), by omega, i + 1, ρ4, st4, rfl, hlt, R4, N5, pn4, hk4⟩
      | cont => cases f4; exact ⟨xs.length + 1 - (i + 1), by omega, i + 1, ρ4, st4, rfl, hlt, R4, N5, pn4, hk4⟩
      | brk => cases f4; exact fin R4 N5 .next hk4
      | ret v => obtain ⟨val, rfl, rv⟩ := f4; exact fin R4 N5 (.ret rv) hk4
    · have hie : i = xs.length := by omega
      subst hie
      refine withT (it0.done fx.A ρ' _ s' _ _ ok.room.handled N'.pre still (R'.tr (forK_still hk)) pi fun h' tk hkeep ht => ?_)
      have nI2 : I ∉ fx.av := fun hI => by obtain ⟨ob, e⟩ := R1.rel.avs I (List.mem_append.mpr (.inr hI)); rw [hn] at e; cases e
      rw [List.drop_length] at hk
      have less : Nxt fx.own ρ1 s1 ρ' s' := (g.nxt.trans N').less fun a ha => by
        rcases List.mem_cons.mp ha with rfl | ha
        · exact .inr hn
        · exact .inl ha
      refine wpAny_execs_nil ?_
      exact z .next st' ρ' .next _ (R'.leave nI nI2 hkeep rfl rfl ht) (N1.trans (less.leave hn hkeep)) .next hk.2
  · exact h1.elim
end


section
variable {c : Cx} {r : Nat} {fx : Fx} {vs : Vis} {st : St}

theorem TS_while {test : Expr} {body : List Stmt} {p : Pos} {T : St → KB → Prop} {B : St → KF → Prop} {k : KF} {n : Nat}
    (hT : ∀ st k, T st k → TB c fx (isTrue test fx.env (eval test fx.env)) st k) (hB : ∀ st k, B st k → TS c fx (execs body fx.env) st k) (h : whK T B n st k) : TS c fx (exec (.While test body [] p) fx.env) st k := by
  intro ρ s Q E R z
  refine wpAny_While (codeAny_whileLoop (fun n s' => ∃ ρ' st', RelF c fx ρ' st' s' ∧ Nxt fx.own ρ s ρ' s' ∧ whK T B n st' k) (fun n s' hI => ?_) n ⟨ρ, st, R, .refl, h⟩)
  obtain ⟨ρ', st', R', N', hk⟩ := hI
  cases n with
  | zero => exact hk.elim
  | succ n =>
    refine hT st' _ hk ρ' s' _ _ R' fun b st2 ρ2 s2 R2 N2 h2 => ?_
    cases b with
    | false => exact wpAny_execs_nil (z .next st2 ρ2 .next s2 R2 (N'.trans N2) .next (h2.2 rfl))
    | true =>
      refine hB st2 _ (h2.1 rfl) ρ2 s2 _ _ R2 fun f st3 ρ3 fl s3 R3 N3 f3 h3 => ?_
      have N4 := N'.trans (N2.trans N3)
      cases f with
      | next => cases f3; exact ⟨n, Nat.lt_succ_self _, ρ3, st3, R3, N4, h3⟩
      | cont => cases f3; exact ⟨n, Nat.lt_succ_self _, ρ3, st3, R3, N4, h3⟩
      | brk => cases f3; exact z .next st3 ρ3 .next s3 R3 N4 .next h3
      | ret v => obtain ⟨val, rfl, rv⟩ := f3; exact z (.ret v) st3 ρ3 (.ret val) s3 R3 N4 (.ret rv) h3

/-- a plain list's item is set; the object stays a plain one -/
theorem setItem_plain {prog : Program} {w : World} {A : Around} {E : Value → Shared → Prop} {s : Shared} {l : Addr} {us : List Value} {n : Nat} {k : Int} {t : Tok} {v : Value} {Q : Unit → Shared → Prop} (ho : s.heap.get? l = some (lstObj us n))
    (h0 : 0 ≤ k) (hfit : k < 2 ^ 63) (hn : k < us.length)
    (hQ : ∀ h' n', h'.get? l = some (lstObj (us.set k.toNat v) n') → Heap.SameBut l s.heap h' → Q () { s with heap := h' }) :
    wpAny (model prog w) A (setItem (.ref l) (.int k t) v) Q E s := by
  have hl : s.heap.IsList l us.toArray := lst_is ho
  unfold setItem
  refine wpAny_holding ?_
  first | refine wpAny_bind (wpAny_pure ?_) | skip
  refine wpAny_bind (wpAny_sequenceKey hl.typeIs (by decide) ?_)
  refine wpAny_bind (wpAny_callSpecial?_slot (name := Str.ofString "__setitem__") hl.typeIs slot_list_setitem
    (wpAny_call_entry slot_list_setitem hl.typeIs entry_list_setitem ?_ (args_list_setitem _ _ _)))
  show wpAny _ _ (Builtin.List.listSubscript? (.int k t) >>= _) _ _ s
  refine wpAny_bind (wpAny_listSubscript_int (fitsIndex_of h0 hfit) ?_)
  clear hfit
  obtain ⟨j, rfl⟩ := Int.eq_ofNat_of_zero_le h0
  have hj : j < us.length := by omega
  show wpAny _ _ ((seqItemAt l j >>= fun r => pure (r.map (j, ·))) >>= _) _ _ s
  refine wpAny_bind (wpAny_bind (wpAny_seqItemAt ho rfl (wpAny_pure ?_)))
  rw [show us.toArray[j]? = some us[j] by simp [hj]]
  show wpAny _ _ (setSeqItemAt l j v >>= _) _ _ s
  have e : Obj.mapSeq (·.setIfInBounds j v) (lstObj us n) = lstObj (us.set j v) n := by
    simp [Obj.mapSeq, lstObj]
  have fin := hQ (s.heap.update l (Obj.mapSeq (·.setIfInBounds j v))) n (by rw [Heap.get?_update_self _ ho (by rw [e]; rfl), e]; rfl) (Heap.SameBut.update ..)
  refine wpAny_bind (wpAny_setSeqItemAt ho rfl ?_)
  first
    | exact wpAny_bind (wpAny_pure (wpAny_pure ⟨.none, rfl, wpAny_pure fin⟩))
    | exact wpAny_pure ⟨.none, rfl, wpAny_pure fin⟩

/-- an item of a tracked list is set -/
theorem ssubS_snd {x y v : V} {k : KF} (h : ssubS x y v st k) {ρ : Rho} {s : Shared} {Q : Unit → Shared → Prop} {E : Value → Shared → Prop} {ux uy uv : Value} (R : RelF c fx ρ st s)
    (hx : VRep c.C ρ (Still s.heap (fx.mv ρ)) x ux) (hy : VRep c.C ρ (Still s.heap (fx.mv ρ)) y uy) (hv : VRep c.C ρ (Still s.heap (fx.mv ρ)) v uv)
    (q : ∀ st' ρ' s', RelF c fx ρ' st' s' → Nxt fx.own ρ s ρ' s' → k .next st' → Q () s') : wpAny (model c.prog c.w) fx.A (setItem ux uy uv) Q E s := by
  obtain ⟨j, rfl, h⟩ := int1_inv h
  obtain ⟨d, rfl, h⟩ := dat1_inv h
  cases x with
  | lst i =>
    obtain ⟨_, ds, e, e0, h⟩ := trk1_inv (x := .lst i) (st := st) (k := fun ds => 0 ≤ j ∧ j < ds.length ∧ ds.length < 2 ^ 62 ∧ k .next ⟨st.σ.set i (.lst (ds.set j.toNat d)), st.loc⟩) h
    cases e
    obtain ⟨a, us, n, e1, e2, hr⟩ := R.list e0
    obtain ⟨p, e3, rfl⟩ := hx
    rw [e1] at e3; cases e3
    obtain ⟨t, rfl⟩ := hy
    obtain ⟨h1, h2, h3, h4⟩ := h
    have hl := hr.length
    refine setItem_plain e2 h1 (by omega) (by omega) fun h' n' hl' hs => ?_
    have st' : ∀ b o, Still s.heap (fx.mv ρ) b o → Still h' (fx.mv ρ) b o := fun b o x => ⟨(hs.2 b (fun q => x.2 (by subst q; simp [Fx.mv]; exact .inl (Rho.mem_addrs.mpr ⟨_, _, e1, .inl rfl⟩)))).trans x.1, x.2⟩
    obtain ⟨R', N'⟩ := R.turn (s' := { s with heap := h' }) e1 (.inl rfl) hs ⟨_, hl'⟩ (m' := .lst (ds.set j.toNat d)) ⟨rfl, us.set j.toNat uv, n', hl', (hr.mono st').set (Rep.mono st' hv)⟩ rfl rfl (Nat.le_refl _)
    exact q _ _ _ R' N' h4
  | _ => exact h.elim

/-- the attribute of a tracked instance is set -/
theorem osa_exact {prog : Program} {w : World} {A : Around} {R : Result → Shared → Prop} {K : Frag} {s : Shared} {x C dx : Addr} {name : Str} {tk : Tok} {v : Value} {es : List DictEntry} {n : Nat} (X : K.In s.heap)
    (hx : s.heap.get? x = some (instObj C dx)) (D : s.heap.get? dx = some (dictOf es n)) (hp : plainOver K C = true) (ht : takerIn K C name = some none) (hh : hasDictIn K C = true)
    (hl : getL name es = some none) (hz : es.length ≤ 999)
    (h : ∀ h' n' en, Heap.SameBut dx s.heap h' → h'.get? dx = some (dictOf (es ++ [en]) n') → keyName en = some name → en.val = v → R (.ok (.ret .none)) { s with heap := h', toks := s.toks + 1 }) :
    codeAny (model prog w) A (.call (.builtin "object.__setattr__") ⟨[.ref x, .str name tk, v], []⟩) R s := by
  have I : InstAt s.heap x (instObj C dx) C (some (dictOf es n)) := ⟨hx, rfl, rfl, D⟩
  refine osa_open X I hp ht fun b => ?_
  obtain ⟨cd, hc, hd'⟩ := any_some hh
  have hnone : es.find? (·.key.isStr name) = none ∧ es.any (·.refKey) = false := by
    unfold getL at hl
    split at hl
    · cases hl
    · rename_i e
      split at hl
      · cases hl
      · rename_i z; exact ⟨e, by simpa using z⟩
  have hput : ∀ hsh key, putL name hsh key v es = es ++ [⟨hsh, key, v⟩] := fun hsh key => by
    rw [← putL_find]
    have : es.findIdx? (fun x => x.key.isStr name) = none := by
      have := any_of_findIdx name es
      have h2 : es.any (·.key.isStr name) = false := by
        rw [List.any_eq_false]; intro e he; simpa using List.find?_eq_none.mp hnone.1 e he
      rw [h2] at this
      cases q : es.findIdx? (fun x => x.key.isStr name) with
      | none => rfl
      | some i => rw [q] at this; cases this
    rw [this]
  refine wpAny_bind (wpAny_pure (wpAny_bind (wpAny_bind (wpAny_loadPart hx (wpAny_bind ((looks_clsIn X hc).here ?_))))))
  rw [hd']
  refine wpAny_pure (a := some dx) (wpAny_bind (wpAny_pure (wpAny_bind ?_)))
  unfold nsSet
  refine wpAny_bind (wpAny_bind (wpAny_askSetting (wpAny_pure (wpAny_bind (wpAny_mkText (wpAny_bind (wpAny_loadPart D ?_)))))))
  dsimp only
  have cc : (!es.toArray.any (·.key.isStr name) && es.toArray.any (·.refKey)) = false := by
    rw [← Array.any_toList, ← Array.any_toList]
    show (!es.any (·.key.isStr name) && es.any (·.refKey)) = false
    rw [hnone.2, Bool.and_false]
  rw [aRefKeyMayBeTheName_at, cc]
  have e1 : Obj.putName name (PyData.keyHash w.params name) (.str name s.toks) v (dictOf es n) = dictOf (es ++ [⟨PyData.keyHash w.params name, .str name s.toks, v⟩]) (putN name es n) := by rw [putName_dict, hput]
  have D' := Heap.get?_update_self (Obj.putName name (PyData.keyHash w.params name) (.str name s.toks) v) D (by rw [e1]; rfl)
  rw [e1] at D'
  refine wpAny_updatePart D ?_
  refine wpAny_bind (wpAny_lookBehind D' (pastItsLine_dict (by rw [List.size_toArray, sizeLine_eq]; simp; omega)) ?_)
  exact wpAny_pure (h _ _ _ (Heap.SameBut.update ..) D' rfl rfl)
end


section
variable {c : Cx} {r : Nat} {fx : Fx} {vs : Vis} {st : St}

theorem satS_snd (O : Ok c) {x v : V} {n : Nat} {k : KF} (h : satS x n v st k) {ρ : Rho} {s : Shared} {Q : Unit → Shared → Prop} {E : Value → Shared → Prop} {ux uv : Value} (R : RelF c fx ρ st s)
    (hx : VRep c.C ρ (Still s.heap (fx.mv ρ)) x ux) (hv : VRep c.C ρ (Still s.heap (fx.mv ρ)) v uv)
    (q : ∀ st' ρ' s', RelF c fx ρ' st' s' → Nxt fx.own ρ s ρ' s' → k .next st' → Q () s') : wpAny (model c.prog c.w) fx.A (setAttr ux (c.an n) uv) Q E s := by
  unfold satS at h
  split at h
  · rename_i i
    split at h
    · rename_i C ns xs e
      obtain ⟨h1, h2, h3, hk⟩ := h
      obtain ⟨p, hp, rfl⟩ := hx
      obtain ⟨hC, h6, hne, es, nn, us, e1, e2, he, hsz, hr⟩ := R.rel.objs _ _ _ hp e
      obtain ⟨g1, g2, g3, g4, g5⟩ := O.inst _ hC
      have hl : getL (c.an n) es = some none := by
        rw [getL_of he, findIdx_names O h6 h2]
        have : ns.findIdx? (fun m => m == n) = none := by
          rw [List.findIdx?_eq_none_iff]
          intro y hy
          exact beq_eq_false_iff_ne.mpr (fun z => h1 (z ▸ hy))
        rw [this]
      have hlen : es.length = ns.length := by have := congrArg List.length he.1; simpa using this
      have X := K_in O R
      have tk : ∀ a, a ∈ fx.own ++ fx.av → a ≠ p.2 := fun a ha q => R.rel.off a (Rho.mem_addrs.mpr ⟨_, _, hp, .inr q⟩) ha
      refine set_plain X (od := some (dictOf es nn)) ⟨e1, rfl, rfl, e2⟩ g3 (osa_exact (s := { s with toks := s.toks + 1 }) X e1 e2 g4 (g5 n h2).2 g2 hl (by omega) fun h' n' en hs hd hk1 hk2 => ?_)
      have st' : ∀ b o, Still s.heap (fx.mv ρ) b o → Still h' (fx.mv ρ) b o := fun b o x => ⟨(hs.2 b (fun q => x.2 (by subst q; simp [Fx.mv]; exact .inl (Rho.mem_addrs.mpr ⟨_, _, hp, .inr rfl⟩)))).trans x.1, x.2⟩
      obtain ⟨R', N'⟩ := R.turn (s' := { s with heap := h', toks := s.toks + 1 + 1 }) hp (.inr rfl) hs ⟨_, hd⟩ (m' := .inst C (ns ++ [n]) (xs ++ [v])) ⟨hC, (fun i hi => by
          rcases List.mem_append.mp hi with hi | hi
          · exact h6 i hi
          · rw [List.mem_singleton.mp hi]; exact h2), hne, es ++ [en], n', us ++ [uv], (hs.2 _ hne).trans e1, hd, ⟨by simp [List.map_append, he.1, hk1], by simp [he.2, hk2]⟩, by simp; omega, (hr.mono (fun _ _ e => e) st').append (.cons (hv.mono (fun _ _ e => e) st') .nil)⟩ rfl rfl (by show s.toks ≤ s.toks + 1 + 1; omega)
      exact q _ _ _ R' N' hk
    · exact h.elim
  · exact h.elim

theorem swaps_att {N : Nm} {o : Expr} {a : Str} {p : Pos} {l : Nat} {env : Env} (e : ME) : swapsWith (toE N e) (some (.Attribute o a p)) l env = pure false := by cases e <;> rfl
theorem swaps_sub {N : Nm} {o i : Expr} {p : Pos} {l : Nat} {env : Env} (e : ME) : swapsWith (toE N e) (some (.Subscript o i p)) l env = pure false := by cases e <;> rfl

theorem TS_satt (O : Ok c) {N : Nm} {o e : ME} {n : Nat} {p q : Pos} {k : KF}
    (h : TE c fx (eval (toE N e) fx.env) st fun v st1 => TE c fx (eval (toE N o) fx.env) st1 fun x st2 => satS x n v st2 k) : TS c fx (exec (.Assign [.Attribute (toE N o) (c.an n) p] (toE N e) q) fx.env) st k := by
  intro ρ s Q E R z
  refine plainObj_wpAny_Assign_Attribute (h ρ s _ _ R fun v st1 ρ1 uv s1 R1 N1 r1 h1 => h1 ρ1 s1 _ _ R1 fun x st2 ρ2 ux s2 R2 N2 r2 h2 => ?_) (swaps_att e)
  exact satS_snd O h2 R2 r2 (r1.nxt N2) fun st3 ρ3 s3 R3 N3 h3 => z .next st3 ρ3 .next s3 R3 (N1.trans (N2.trans N3)) .next h3
theorem TS_ssub {N : Nm} {a i e : ME} {p q : Pos} {k : KF}
    (h : TE c fx (eval (toE N e) fx.env) st fun v st1 => TE c fx (eval (toE N a) fx.env) st1 fun x st2 => TE c fx (eval (toE N i) fx.env) st2 fun y st3 => ssubS x y v st3 k) : TS c fx (exec (.Assign [.Subscript (toE N a) (toE N i) p] (toE N e) q) fx.env) st k := by
  intro ρ s Q E R z
  refine wpAny_Assign_Subscript (h ρ s _ _ R fun v st1 ρ1 uv s1 R1 N1 r1 h1 => h1 ρ1 s1 _ _ R1 fun x st2 ρ2 ux s2 R2 N2 r2 h2 => h2 ρ2 s2 _ _ R2 fun y st3 ρ3 uy s3 R3 N3 r3 h3 => ?_) (swaps_sub e)
  exact ssubS_snd h3 R3 (r2.nxt N3) r3 ((r1.nxt N2).nxt N3) fun st4 ρ4 s4 R4 N4 h4 => z .next st4 ρ4 .next s4 R4 (N1.trans (N2.trans (N3.trans N4))) .next h4

theorem toDs_rep {C : Addr} {ρ : Rho} {P : ObjAt} : ∀ {xs : List V} {vs : List Value} {ds : List D}, toDs xs = some ds → VReps C ρ P xs vs → Reps C P ds vs
  | [], _, _, e, h => by cases e; exact h
  | x :: xs, _, ds, e, ⟨v, r, e1, a, b⟩ => by
    subst e1
    cases x with
    | d d0 =>
      dsimp only [toDs, V.toD] at e
      cases e2 : toDs xs with
      | none => rw [e2] at e; cases e
      | some ds' => rw [e2] at e; cases e; exact Reps.cons a (toDs_rep e2 b)
    | _ => cases e
theorem TE_lst {N : Nm} {m : Bool} {es : MEs} {p : Pos} {k : KV}
    (h : TEs c fx (spliced (backTo p (starEach (toEs N es) fx.env))) st fun xs st => match toDs xs with
      | some ds => ds.length ≤ 1000 ∧ (match m with | true => newL st ds k | false => k (.d (.list ds)) st)
      | none => False) : TE c fx (eval (.List (toEs N es) p) fx.env) st k := by
  intro ρ s Q E R z
  refine wpAny_List (h ρ s _ _ R fun xs st1 ρ1 vals s1 R1 N1 r1 h1 => ?_)
  dsimp only at h1
  split at h1
  · rename_i ds hd
    have hr := toDs_rep hd r1
    have z' : ∀ v st' ρ' val s', RelF c fx ρ' st' s' → Nxt fx.own ρ1 s1 ρ' s' → VRep c.C ρ' (Still s'.heap (fx.mv ρ')) v val → k v st' → Q val s' := fun v st' ρ' val s' a b d e => z v st' ρ' val s' a (N1.trans b) d e
    have hsz : vals.length ≤ sizeLine := by have := hr.length; rw [sizeLine_eq]; omega
    refine ⟨hsz, ?_⟩
    cases m with
    | true => exact newL_snd (t := s1.toks) R1 hr h1.2 z'
    | false =>
      obtain ⟨R2, N2, S2⟩ := frozen_push (t := s1.toks) (o := lstObj vals 0) R1 rfl
      exact z' _ _ _ _ _ R2 N2 (show VRep _ _ _ (.d (.list ds)) _ from ⟨_, vals, 0, rfl, S2, hr.mono fun a o x => N2.still a o x⟩) h1.2
  · exact h1.elim

theorem TE_tup {N : Nm} {es : MEs} {kk : Nat} {p : Pos} {k : KV}
    (h : TEs c fx (spliced (backTo p (starEach (toEs N es) fx.env))) st fun xs st => match toDs xs with
      | some ds => ds.length ≤ 1000 ∧ k (.d (.tup ds)) st
      | none => False) : TE c fx (eval (.Tuple (toEs N es) kk p) fx.env) st k := by
  intro ρ s Q E R z
  refine wpAny_Tuple (h ρ s _ _ R fun xs st1 ρ1 vals s1 R1 N1 r1 h1 => ?_)
  dsimp only at h1
  split at h1
  · rename_i ds hd
    have hr := toDs_rep hd r1
    have hsz : vals.length ≤ sizeLine := by have := hr.length; rw [sizeLine_eq]; omega
    refine ⟨hsz, ?_⟩
    obtain ⟨R2, N2, S2⟩ := frozen_push (t := s1.toks) (o := tupObj vals 0) R1 rfl
    exact z _ _ _ _ _ R2 (N1.trans N2) (show VRep _ _ _ (.d (.tup ds)) _ from ⟨_, vals, 0, rfl, S2, hr.mono fun a o x => N2.still a o x⟩) h1.2
  · exact h1.elim

/-- the rest of the attribute reads: a class's text -/
theorem TE_att (O : Ok c) {N : Nm} (hsup : ∀ i, (N.gl i == ("super" : Str)) = false) {a : ME} {ai : Nat} {p : Pos} {k : KV}
    (h : TE c fx (eval (toE N a) fx.env) st fun x st => attS x ai st k) : TE c fx (eval (.Attribute (toE N a) (c.an ai) p) fx.env) st k := by
  intro ρ s Q E R z
  refine attr_any (fun Q' hq => attrBase hsup a _ hq) (h ρ s _ _ R fun x st1 ρ1 u s1 R1 N1 r1 h1 => ?_)
  exact attS_snd O h1 ρ1 s1 Q E [u] R1 (.cons r1 .nil) fun v st' ρ' val s' R' N' r' hk => z _ _ _ _ _ R' (N1.trans N') r' hk
end


/-- what an expression's walk may hand on: the slots stay -/
noncomputable abbrev Up {α : Type} (st : St) (k k' : α → St → Prop) : Prop := ∀ v st', st'.loc = st.loc → k v st' → k' v st'

theorem newL_up {st : St} {ds : List D} {k k' : KV} (hk : Up st k k') (h : newL st ds k) : newL st ds k' := hk _ _ rfl h

theorem catS_up {x y : V} {st : St} {k k' : KV} (hk : Up st k k') (h : catS x y st k) : catS x y st k' := by
  unfold catS at h ⊢
  split at h
  · exact ⟨h.1, newL_up hk h.2⟩
  · exact h.elim
theorem addS_up {x y : V} {st : St} {k k' : KV} (hk : Up st k k') (h : addS x y st k) : addS x y st k' := by
  cases x with
  | d d => cases d with
    | int a => exact int1_up (x := y) (fun _ h => hk _ _ rfl h) h
    | str a => exact str1_up (x := y) (fun _ h => ⟨h.1, hk _ _ rfl h.2⟩) h
    | list a => exact catS_up hk h
    | _ => exact h.elim
  | lst i => exact catS_up hk h
  | _ => exact h.elim
theorem mulS_up {x : V} {b : Int} {st : St} {k k' : KV} (hk : Up st k k') (h : mulS x b st k) : mulS x b st k' := by
  cases x with
  | d d => cases d with
    | int a => exact ⟨h.1, hk _ _ rfl h.2⟩
    | str a => exact ⟨h.1, h.2.1, hk _ _ rfl h.2.2⟩
    | list a => exact ⟨h.1, h.2.1, newL_up hk h.2.2⟩
    | _ => exact h.elim
  | _ => exact h.elim
theorem binS_up {op : Operator} {x y : V} {st : St} {k k' : KV} (hk : Up st k k') (h : binS op x y st k) : binS op x y st k' := by
  cases op with
  | Add => exact addS_up hk h
  | Sub => exact int1_up (fun _ h => int1_up (fun _ h => hk _ _ rfl h) h) h
  | Mult => exact int1_up (fun _ h => mulS_up hk h) h
  | FloorDiv => exact int1_up (fun _ h => int1_up (fun _ h => ⟨h.1, h.2.1, hk _ _ rfl h.2.2⟩) h) h
  | Mod => exact int1_up (fun _ h => int1_up (fun _ h => ⟨h.1, hk _ _ rfl h.2⟩) h) h
  | _ => exact h.elim
theorem unS_up {op : UnaryOp} {x : V} {st : St} {k k' : KV} (hk : Up st k k') (h : unS op x st k) : unS op x st k' := by
  unfold unS at h
  split at h <;> first | exact hk _ _ rfl h | exact h.elim
theorem truthS_up {x : V} {st : St} {k k' : KB} (hk : Up st k k') (h : truthS x st k) : truthS x st k' := by
  unfold truthS at h
  split at h <;> first | exact hk _ _ rfl h | exact ⟨h.1, hk _ _ rfl h.2⟩ | exact h.elim

theorem eqF_up {x y : V} {st : St} {k k' : KB} (hk : Up st k k') (h : eqF x y st k) : eqF x y st k' := by
  unfold eqF at h ⊢
  split at h
  · exact ⟨h.1, h.2.1, h.2.2.1, h.2.2.2.1, hk _ _ rfl h.2.2.2.2⟩
  · exact h.elim
theorem eqS_up {x y : V} {st : St} {k k' : KB} (hk : Up st k k') (h : eqS x y st k) : eqS x y st k' := by
  cases x with
  | d d => cases d with
    | int a => exact int1_up (x := y) (fun _ h => hk _ _ rfl h) h
    | bool a => exact bool1_up (x := y) (fun _ h => hk _ _ rfl h) h
    | str a => exact str1_up (x := y) (fun _ h => hk _ _ rfl h) h
    | list a => exact eqF_up hk h
    | tup a => exact eqF_up hk h
    | _ => exact h.elim
  | lst i => exact eqF_up hk h
  | _ => exact h.elim
theorem isS_up {f : Bool → Bool} {x y : V} {st : St} {k k' : KV} (hk : Up st k k') (h : isS f x y st k) : isS f x y st k' := by
  cases y with
  | d d => cases d with
    | none =>
      cases x with
      | d d => cases d with
        | none => exact hk _ _ rfl h
        | str a => exact hk _ _ rfl h
        | _ => exact h.elim
      | lst i => exact hk _ _ rfl h
      | _ => exact h.elim
    | _ => exact h.elim
  | ty b => cases x with
    | ty a => exact hk _ _ rfl h
    | _ => exact h.elim
  | _ => exact h.elim
theorem cmpS_up {op : CmpOp} {x y : V} {st : St} {k k' : KV} (hk : Up st k k') (h : cmpS op x y st k) : cmpS op x y st k' := by
  cases op with
  | Is => exact isS_up hk h
  | IsNot => exact isS_up hk h
  | Eq =>
    have h : eqS x y st fun b st => k (.d (.bool b)) st := h
    exact eqS_up (k' := fun b st => k' (.d (.bool b)) st) (fun b st' e => hk _ st' e) h
  | NotEq =>
    have h : eqS x y st fun b st => k (.d (.bool (!b))) st := h
    exact eqS_up (k' := fun b st => k' (.d (.bool (!b))) st) (fun b st' e => hk _ st' e) h
  | Lt => exact int1_up (fun _ h => int1_up (fun _ h => hk _ _ rfl h) h) h
  | LtE => exact int1_up (fun _ h => int1_up (fun _ h => hk _ _ rfl h) h) h
  | Gt => exact int1_up (fun _ h => int1_up (fun _ h => hk _ _ rfl h) h) h
  | GtE => exact int1_up (fun _ h => int1_up (fun _ h => hk _ _ rfl h) h) h
  | _ => exact h.elim
theorem subS_up {x y : V} {st : St} {k k' : KV} (hk : Up st k k') (h : subS x y st k) : subS x y st k' := by
  refine int1_up (fun i h => ?_) h
  cases x with
  | d d => cases d with
    | list ds => obtain ⟨d, a, b, e⟩ := h; exact ⟨d, a, b, hk _ _ rfl e⟩
    | tup ds => obtain ⟨d, a, b, e⟩ := h; exact ⟨d, a, b, hk _ _ rfl e⟩
    | str ds => obtain ⟨d, a, b, e⟩ := h; exact ⟨d, a, b, hk _ _ rfl e⟩
    | _ => exact h.elim
  | lst j => exact trk1_up (x := .lst j) (st := st) (k := fun ds => ∃ d, atIdx ds i = some d ∧ ds.length < 2 ^ 62 ∧ k (.d d) st) (k' := fun ds => ∃ d, atIdx ds i = some d ∧ ds.length < 2 ^ 62 ∧ k' (.d d) st) (fun _ ⟨d, a, b, e⟩ => ⟨d, a, b, hk _ _ rfl e⟩) h
  | _ => exact h.elim
theorem slcD_up {x : V} {l h z : Option Int} {st : St} {k k' : KV} (hk : Up st k k') (hh : slcD x l h z st k) : slcD x l h z st k' := by
  cases x with
  | d d => cases d with
    | list ds => cases z with
      | none => exact ⟨hh.1, hk _ _ rfl hh.2⟩
      | some z => exact ⟨hh.1, hh.2.1, hk _ _ rfl hh.2.2⟩
    | str ds => cases z with
      | none => exact ⟨hh.1, hk _ _ rfl hh.2⟩
      | some z => exact hh.elim
    | _ => exact hh.elim
  | _ => exact hh.elim
theorem slcS_up {x l h z : V} {st : St} {k k' : KV} (hk : Up st k k') (hh : slcS x l h z st k) : slcS x l h z st k' :=
  part1_up (fun _ hh => part1_up (fun _ hh => part1_up (fun _ hh => slcD_up hk hh) hh) hh) hh
theorem attS_up {x : V} {ai : Nat} {st : St} {k k' : KV} (hk : Up st k k') (h : attS x ai st k) : attS x ai st k' := by
  unfold attS at h ⊢
  split at h
  · obtain ⟨d, a, b⟩ := h; exact ⟨d, a, hk _ _ rfl b⟩
  · split at h
    · rename_i e
      obtain ⟨a, b, v, e1, e2⟩ := h; exact ⟨a, b, v, e1, hk _ _ rfl e2⟩
    · exact h.elim
  · exact h.elim
theorem tyS_up {x : V} {st : St} {k k' : KV} (hk : Up st k k') (h : tyS x st k) : tyS x st k' := by
  rcases tyS_inv h with ⟨a, rfl, h⟩ | ⟨i, ds, rfl, e, h⟩
  · exact hk _ _ rfl h
  · exact trk1_up (x := .lst i) (k := fun _ => k (.ty "list") st) (k' := fun _ => k' (.ty "list") st) (fun _ => hk _ _ rfl) (by simp only [trk1, e]; exact h)
theorem biS_up {b : Bi} {xs : List V} {st : St} {k k' : KV} (hk : Up st k k') (h : biS b xs st k) : biS b xs st k' := by
  cases b with
  | len => exact one1_up (fun _ h => lenS_up (fun _ h => ⟨h.1, hk _ _ rfl h.2⟩) h) h
  | max2 => exact two1_up (fun _ _ h => int1_up (fun _ h => int1_up (fun _ h => hk _ _ rfl h) h) h) h
  | min2 => exact two1_up (fun _ _ h => int1_up (fun _ h => int1_up (fun _ h => hk _ _ rfl h) h) h) h
  | maxl => exact h.elim
  | minl => exact h.elim
  | abs => exact h.elim
  | sum => exact one1_up (fun _ h => seq1_up (fun _ ⟨l, h1, h2, h3⟩ => ⟨l, h1, h2, hk _ _ rfl h3⟩) h) h
  | range1 => exact one1_up (fun _ h => int1_up (fun _ h => hk _ _ rfl h) h) h
  | range2 => exact two1_up (fun _ _ h => int1_up (fun _ h => int1_up (fun _ h => hk _ _ rfl h) h) h) h
  | range3 => exact three1_up (fun _ _ _ h => int1_up (fun _ h => int1_up (fun _ h => int1_up (fun _ h => ⟨h.1, h.2.1, hk _ _ rfl h.2.2⟩) h) h) h) h
  | list => exact one1_up (fun _ h => rng1_up (fun _ _ _ h => ⟨h.1, h.2.1, h.2.2.1, h.2.2.2.1, h.2.2.2.2.1, newL_up hk h.2.2.2.2.2⟩) h) h
  | sorted => exact h.elim
  | sortedT => exact one1_up (fun _ h => lst1_up (fun _ ⟨t0, t1, t2, t3, e, h⟩ => ⟨t0, t1, t2, t3, e, fun p a b => hk _ _ rfl (h p a b)⟩) h) h
  | tuple => exact one1_up (fun _ h => trk1_up (fun _ h => ⟨h.1, hk _ _ rfl h.2⟩) h) h
  | type => exact one1_up (fun _ h => tyS_up hk h) h
theorem bmS_up {b : Bm} {o : V} {xs : List V} {st : St} {k k' : KV} (hk : Up st k k') (h : bmS b o xs st k) : bmS b o xs st k' := by
  cases b with
  | lower => exact str1_up (fun _ h => none0_up (fun h => ⟨h.1, h.2.1, hk _ _ rfl h.2.2⟩) h) h
  | count => exact h.elim
  | join => exact str1_up (fun _ h => one1_up (fun _ ⟨ds, l, h1, h2, h3, h4, h5⟩ => ⟨ds, l, h1, h2, h3, h4, hk _ _ rfl h5⟩) h) h
  | index => exact h.elim
  | append =>
    refine one1_up (fun _ h => dat1_up (fun x h => ?_) h) h
    cases o with
    | lst i => exact trk1_up (x := .lst i) (st := st) (k := fun ds => ds.length < 2 ^ 20 ∧ k (.d .none) ⟨st.σ.set i (.lst (ds ++ [x])), st.loc⟩) (k' := fun ds => ds.length < 2 ^ 20 ∧ k' (.d .none) ⟨st.σ.set i (.lst (ds ++ [x])), st.loc⟩) (fun _ h => ⟨h.1, hk _ _ rfl h.2⟩) h
    | _ => exact h.elim
  | search =>
    cases o with
    | pat nm a => exact one1_up (xs := xs) (fun _ h => str1_up (fun _ h => ⟨h.1, h.2.1, hk _ _ rfl h.2.2⟩) h) h
    | _ => exact h.elim
theorem TC_up {c : Cx} {r : Nat} {f : Addr} {xs : List V} {kw : Option Bool} {σ : List MObj} {k k' : V → List MObj → Prop} (hk : ∀ v σ', k v σ' → k' v σ') (h : TC c r f xs kw σ k) : TC c r f xs kw σ k' :=
  fun A av ρ s Q E vals a b d q => h A av ρ s Q E vals a b d fun v σ' ρ' val s' x y z w => q v σ' ρ' val s' x y z (hk _ _ w)

theorem setAll_up : ∀ (is : List Nat) (xs : List V) {st : St} {k k' : St → Prop}, (∀ st', k st' → k' st') → setAll is xs st k → setAll is xs st k'
  | [], [], _, _, _, hk, h => hk _ h
  | [], _ :: _, _, _, _, _, h => h.elim
  | _ :: _, [], _, _, _, _, h => h.elim
  | _ :: is, _ :: xs, _, _, _, hk, h => ⟨h.1, setAll_up is xs hk h.2⟩
theorem bindT_up {t : MT} {x : V} {st : St} {k k' : St → Prop} (hk : ∀ st', k st' → k' st') (h : bindT t x st k) : bindT t x st k' := by
  cases t with
  | nm i p => exact ⟨h.1, hk _ h.2⟩
  | tup is kk p =>
    unfold bindT at h ⊢
    dsimp only at h ⊢
    split at h
    · exact setAll_up _ _ hk h
    · exact h.elim
theorem loopG_up {o : Option (Nat × List D)} {body body' : V → St → List D → (St → List D → Prop) → Prop} (hb : ∀ x st acc k k', (∀ st' acc', k st' acc' → k' st' acc') → body x st acc k → body' x st acc k') : ∀ (xs : List V) (st : St) (acc : List D) {k k' : St → List D → Prop}, (∀ st' acc', k st' acc' → k' st' acc') → loopG o body xs st acc k → loopG o body' xs st acc k'
  | [], _, _, _, _, hk, h => ⟨h.1, hk _ _ h.2⟩
  | _ :: xs, _, _, _, _, hk, h => ⟨h.1, hb _ _ _ _ _ (fun _ _ h' => loopG_up hb xs _ _ hk h') h.2⟩


/-- the slots outside `own` agree -/
noncomputable def Agree (own : List Nat) (l l' : List (Option V)) : Prop := l.length = l'.length ∧ ∀ i, i ∉ own → l'[i]? = l[i]?
theorem Agree.refl {own l} : Agree own l l := ⟨rfl, fun _ _ => rfl⟩
theorem Agree.trans {own l l' l''} (a : Agree own l l') (b : Agree own l' l'') : Agree own l l'' := ⟨a.1.trans b.1, fun i h => (b.2 i h).trans (a.2 i h)⟩
theorem Agree.of_eq {own l l'} (e : l' = l) : Agree own l l' := e ▸ .refl
theorem Agree.set {own l} {i : Nat} {v} (h : i ∈ own) : Agree own l (l.set i v) := ⟨by simp, fun j hj => List.getElem?_set_ne (fun (e : i = j) => hj (e ▸ h))⟩

theorem setAll_agree {own : List Nat} : ∀ (is : List Nat) (xs : List V) {st : St} {k k' : St → Prop}, (∀ i ∈ is, i ∈ own) → (∀ st', st'.σ = st.σ → Agree own st.loc st'.loc → k st' → k' st') → setAll is xs st k → setAll is xs st k'
  | [], [], _, _, _, _, hk, h => hk _ rfl .refl h
  | [], _ :: _, _, _, _, _, _, h => h.elim
  | _ :: _, [], _, _, _, _, _, h => h.elim
  | i :: is, _ :: xs, _, _, _, hs, hk, h => ⟨h.1, setAll_agree is xs (fun j hj => hs j (List.mem_cons_of_mem _ hj)) (fun st' e a h' => hk st' e ((Agree.set (hs i (List.mem_cons_self ..))).trans a) h') h.2⟩
theorem bindT_agree {own : List Nat} {t : MT} {x : V} {st : St} {k k' : St → Prop} (hs : ∀ i ∈ tgtSlots t, i ∈ own) (hk : ∀ st', Agree own st.loc st'.loc → k st' → k' st') (h : bindT t x st k) : bindT t x st k' := by
  cases t with
  | nm i p => exact ⟨h.1, hk _ (.set (hs i (List.mem_singleton.mpr rfl))) h.2⟩
  | tup is kk p =>
    unfold bindT at h ⊢
    dsimp only at h ⊢
    split at h
    · exact setAll_agree _ _ hs (fun st' _ a h' => hk st' a h') h
    · exact h.elim

mutual
theorem wpE_up {c : Cx} {r : Nat} : ∀ (e : ME) {st : St} {k k' : KV}, Up st k k' → wpE c r e st k → wpE c r e st k'
  | .var i p, st, k, k', hk, h => by
    dsimp only [wpE] at h ⊢
    split at h
    · exact hk _ _ rfl h
    · exact h.elim
  | .int i kk p, st, k, k', hk, h => hk _ _ rfl h
  | .str s kk p, st, k, k', hk, h => hk _ _ rfl h
  | .bool b kk p, st, k, k', hk, h => hk _ _ rfl h
  | .non kk p, st, k, k', hk, h => hk _ _ rfl h
  | .dbg p, st, k, k', hk, h => hk _ _ rfl h
  | .glb g p, st, k, k', hk, h => by
    dsimp only [wpE] at h ⊢
    split at h <;> first | exact hk _ _ rfl h | exact h.elim
  | .bin op a b p, st, k, k', hk, h => by
    dsimp only [wpE] at h ⊢
    exact wpE_up a (fun x st1 e1 h1 => wpE_up b (fun y st2 e2 h2 => binS_up (fun v st3 e3 h3 => hk v st3 (e3.trans (e2.trans e1)) h3) h2) h1) h
  | .cmp op a b p, st, k, k', hk, h => by
    dsimp only [wpE] at h ⊢
    exact wpE_up a (fun x st1 e1 h1 => wpE_up b (fun y st2 e2 h2 => cmpS_up (fun v st3 e3 h3 => hk v st3 (e3.trans (e2.trans e1)) h3) h2) h1) h
  | .un op a p, st, k, k', hk, h => by
    dsimp only [wpE] at h ⊢
    exact wpE_up a (fun x st1 e1 h1 => unS_up (fun v st3 e3 h3 => hk v st3 (e3.trans e1) h3) h1) h
  | .or2 a b p, st, k, k', hk, h => by
    dsimp only [wpE] at h ⊢
    exact wpE_up a (fun x st1 e1 h1 => truthS_up (fun t st2 e2 h2 => ⟨fun z => hk _ _ (e2.trans e1) (h2.1 z), fun z => wpE_up b (fun v st3 e3 h3 => hk v st3 (e3.trans (e2.trans e1)) h3) (h2.2 z)⟩) h1) h
  | .and2 a b p, st, k, k', hk, h => by
    dsimp only [wpE] at h ⊢
    exact wpE_up a (fun x st1 e1 h1 => truthS_up (fun t st2 e2 h2 => ⟨fun z => hk _ _ (e2.trans e1) (h2.1 z), fun z => wpE_up b (fun v st3 e3 h3 => hk v st3 (e3.trans (e2.trans e1)) h3) (h2.2 z)⟩) h1) h
  | .ife t a b p, st, k, k', hk, h => by
    dsimp only [wpE] at h ⊢
    exact wpB_up t (fun z st1 e1 h1 => ⟨fun hz => wpE_up a (fun v st3 e3 h3 => hk v st3 (e3.trans e1) h3) (h1.1 hz), fun hz => wpE_up b (fun v st3 e3 h3 => hk v st3 (e3.trans e1) h3) (h1.2 hz)⟩) h
  | .lst m es p, st, k, k', hk, h => by
    dsimp only [wpE] at h ⊢
    refine wpEs_up es (fun xs st1 e1 h1 => ?_) h

    split at h1
    · cases m with
      | true => exact ⟨h1.1, newL_up (fun v st3 e3 h3 => hk v st3 (e3.trans e1) h3) h1.2⟩
      | false => exact ⟨h1.1, hk _ _ e1 h1.2⟩
    · exact h1.elim
  | .tup es kk p, st, k, k', hk, h => by
    dsimp only [wpE] at h ⊢
    refine wpEs_up es (fun xs st1 e1 h1 => ?_) h

    split at h1
    · exact ⟨h1.1, hk _ _ e1 h1.2⟩
    · exact h1.elim
  | .sub a i p, st, k, k', hk, h => by
    dsimp only [wpE] at h ⊢
    exact wpE_up a (fun x st1 e1 h1 => wpE_up i (fun y st2 e2 h2 => subS_up (fun v st3 e3 h3 => hk v st3 (e3.trans (e2.trans e1)) h3) h2) h1) h
  | .slc a lo hi s p q, st, k, k', hk, h => by
    dsimp only [wpE] at h ⊢
    exact wpE_up a (fun x st1 e1 h1 => wpO_up lo (fun l st2 e2 h2 => wpO_up hi (fun u st3 e3 h3 => wpO_up s (fun z st4 e4 h4 => slcS_up (fun v st5 e5 h5 => hk v st5 (e5.trans (e4.trans (e3.trans (e2.trans e1)))) h5) h4) h3) h2) h1) h
  | .att a ai p, st, k, k', hk, h => by
    dsimp only [wpE] at h ⊢
    exact wpE_up a (fun x st1 e1 h1 => attS_up (fun v st3 e3 h3 => hk v st3 (e3.trans e1) h3) h1) h
  | .catt i p q, st, k, k', hk, h => by
    dsimp only [wpE] at h ⊢
    split at h
    · exact hk _ _ rfl h
    · exact h.elim
  | .call ck g args p q, st, k, k', hk, h => by
    dsimp only [wpE] at h ⊢
    refine wpEs_up args (fun xs st1 e1 h1 => ?_) h

    split at h1
    · exact TC_up (fun v σ' h2 => hk v _ e1 h2) h1
    · exact TC_up (fun v σ' h2 => hk v _ e1 h2) h1
    · exact biS_up (fun v st3 e3 h3 => hk v st3 (e3.trans e1) h3) h1
    · exact h1.elim
  | .meth mk o args kw p q, st, k, k', hk, h => by
    dsimp only [wpE] at h ⊢
    refine wpE_up o (fun x st1 e1 h1 => ?_) h

    split at h1
    · split at h1
      · exact ⟨h1.1, wpEs_up args (fun xs st2 e2 h2 => TC_up (fun v σ' h3 => hk v _ (e2.trans e1) h3) h2) h1.2⟩
      · exact h1.elim
    · exact ⟨h1.1, h1.2.1, wpEs_up args (fun xs st2 e2 h2 => bmS_up (fun v st3 e3 h3 => hk v st3 (e3.trans (e2.trans e1)) h3) h2) h1.2.2⟩
  | .lzip gl gz a b p1 p2 p3 p4, st, k, k', hk, h => by
    dsimp only [wpE] at h ⊢
    exact wpE_up a (fun x st1 e1 h1 => wpE_up b (fun y st2 e2 ⟨ds, es, a1, a2, a3, a4, a5⟩ => ⟨ds, es, a1, a2, a3, a4, hk _ _ (e2.trans e1) a5⟩) h1) h
  | .repl o a ka pa b kb pb p q, st, k, k', hk, h => by
    dsimp only [wpE] at h ⊢
    refine wpE_up o (fun x st1 e1 h1 => ?_) h

    split at h1
    · exact ⟨h1.1, h1.2.1, hk _ _ e1 h1.2.2⟩
    · exact h1.elim
  | .comp e cs own inner sc p, st, k, k', hk, h => by
    dsimp only [wpE] at h ⊢
    exact wpG_up cs (fun st1 k1 k2 hk1 h1 => wpE_up e hk1 h1) (fun st' acc h1 => hk _ _ rfl h1) h
theorem wpEs_up {c : Cx} {r : Nat} : ∀ (es : MEs) {st : St} {k k' : List V → St → Prop}, Up st k k' → wpEs c r es st k → wpEs c r es st k'
  | .nil, st, k, k', hk, h => hk _ _ rfl h
  | .cons e es, st, k, k', hk, h => by
    dsimp only [wpEs] at h ⊢
    exact wpE_up e (fun x st1 e1 h1 => wpEs_up es (fun xs st2 e2 h2 => hk _ _ (e2.trans e1) h2) h1) h
theorem wpO_up {c : Cx} {r : Nat} : ∀ (o : MO) {st : St} {k k' : KV}, Up st k k' → wpO c r o st k → wpO c r o st k'
  | .none, st, k, k', hk, h => hk _ _ rfl h
  | .some e, st, k, k', hk, h => by
    dsimp only [wpO] at h ⊢
    exact wpE_up e hk h
theorem wpB_up {c : Cx} {r : Nat} : ∀ (t : MB) {st : St} {k k' : KB}, Up st k k' → wpB c r t st k → wpB c r t st k'
  | .val e, st, k, k', hk, h => by
    dsimp only [wpB] at h ⊢
    exact wpE_up e (fun x st1 e1 h1 => truthS_up (fun t st2 e2 h2 => hk _ _ (e2.trans e1) h2) h1) h
  | .cmp op a b p, st, k, k', hk, h => by
    dsimp only [wpB] at h ⊢
    exact wpE_up a (fun x st1 e1 h1 => wpE_up b (fun y st2 e2 h2 => cmpS_up (fun v st3 e3 h3 => truthS_up (fun t st4 e4 h4 => hk _ _ (e4.trans (e3.trans (e2.trans e1))) h4) h3) h2) h1) h
  | .not t p, st, k, k', hk, h => by
    dsimp only [wpB] at h ⊢
    exact wpB_up t (fun b st1 e1 h1 => hk _ _ e1 h1) h
  | .boo op ts p, st, k, k', hk, h => by
    dsimp only [wpB] at h ⊢
    exact wpBs_up op ts hk h
theorem wpBs_up {c : Cx} {r : Nat} (op : BoolOp) : ∀ (ts : MBs) {st : St} {k k' : KB}, Up st k k' → wpBs c r op ts st k → wpBs c r op ts st k'
  | .nil, st, k, k', hk, h => hk _ _ rfl h
  | .cons t ts, st, k, k', hk, h => by
    dsimp only [wpBs] at h ⊢
    refine wpB_up t (fun b st1 e1 h1 => ?_) h
    cases op with
    | And => exact ⟨fun z => wpBs_up .And ts (fun b st2 e2 h2 => hk _ _ (e2.trans e1) h2) (h1.1 z), fun z => hk _ _ e1 (h1.2 z)⟩
    | Or => exact ⟨fun z => hk _ _ e1 (h1.1 z), fun z => wpBs_up .Or ts (fun b st2 e2 h2 => hk _ _ (e2.trans e1) h2) (h1.2 z)⟩
theorem wpG_up {c : Cx} {r : Nat} : ∀ (cs : MC) {elt : St → KV → Prop} {st : St} {acc : List D} {k k' : St → List D → Prop}, (∀ st (k k' : KV), Up st k k' → elt st k → elt st k') → (∀ st' acc', k st' acc' → k' st' acc') → wpG c r cs elt st acc k → wpG c r cs elt st acc k'
  | .nil, elt, st, acc, k, k', he, hk, h => by
    dsimp only [wpG] at h ⊢
    refine he _ _ _ (fun v st1 e1 h1 => ?_) h

    split at h1
    · exact ⟨h1.1, hk _ _ h1.2⟩
    · exact h1.elim
  | .cons t it ifs rest, elt, st, acc, k, k', he, hk, h => by
    dsimp only [wpG] at h ⊢
    refine wpE_up it (fun x st1 e1 h1 => ?_) h

    split at h1
    · exact loopG_up (fun x st2 acc2 k1 k2 hk1 h2 => bindT_up (fun st3 h3 => wpBs_up .And ifs (fun b st4 e4 h4 => ⟨fun z => wpG_up rest he hk1 (h4.1 z), fun z => hk1 _ _ (h4.2 z)⟩) h3) h2) _ _ _ hk h1
    · exact h1.elim
end


noncomputable def MC.tgts : MC → List Nat
  | .nil => []
  | .cons t _ _ r => tgtSlots t ++ MC.tgts r

theorem loopG_agree {own : List Nat} {o : Option (Nat × List D)} {body : V → St → List D → (St → List D → Prop) → Prop} (hb : ∀ x st acc k k', (∀ st' acc', Agree own st.loc st'.loc → k st' acc' → k' st' acc') → body x st acc k → body x st acc k') :
    ∀ (xs : List V) (st : St) (acc : List D) {k k' : St → List D → Prop}, (∀ st' acc', Agree own st.loc st'.loc → k st' acc' → k' st' acc') → loopG o body xs st acc k → loopG o body xs st acc k'
  | [], _, _, _, _, hk, h => ⟨h.1, hk _ _ .refl h.2⟩
  | _ :: xs, _, _, _, _, hk, h => ⟨h.1, hb _ _ _ _ _ (fun _ _ a h' => loopG_agree hb xs _ _ (fun st' acc' a' h'' => hk _ _ (a.trans a') h'') h') h.2⟩

theorem wpG_agree {c : Cx} {r : Nat} {own : List Nat} : ∀ (cs : MC) {elt : St → KV → Prop} {st : St} {acc : List D} {k k' : St → List D → Prop}, (∀ i ∈ cs.tgts, i ∈ own) → (∀ st (k k' : KV), Up st k k' → elt st k → elt st k') →
    (∀ st' acc', Agree own st.loc st'.loc → k st' acc' → k' st' acc') → wpG c r cs elt st acc k → wpG c r cs elt st acc k'
  | .nil, elt, st, acc, k, k', hs, he, hk, h => by
    dsimp only [wpG] at h ⊢
    refine he _ _ _ (fun v st1 e1 h1 => ?_) h
    split at h1
    · exact ⟨h1.1, hk _ _ (.of_eq e1) h1.2⟩
    · exact h1.elim
  | .cons t it ifs rest, elt, st, acc, k, k', hs, he, hk, h => by
    dsimp only [wpG] at h ⊢
    refine wpE_up it (fun x st1 e1 h1 => ?_) h
    split at h1
    · refine loopG_agree (own := own) (k := k) (k' := k') ?_ _ _ _ (fun st' acc' a h' => hk _ _ ((Agree.of_eq e1).trans a) h') h1
      intro x st2 acc2 k1 k2 hk1 h2
      refine bindT_agree (fun i hi => hs i (List.mem_append_left _ hi)) (fun st3 a3 h3 => ?_) h2
      refine wpBs_up .And ifs (fun b st4 e4 h4 => ?_) h3
      exact ⟨fun z => wpG_agree rest (fun i hi => hs i (List.mem_append_right _ hi)) he (fun st' acc' a h' => hk1 _ _ (a3.trans ((Agree.of_eq e4).trans a)) h') (h4.1 z), fun z => hk1 _ _ (a3.trans (.of_eq e4)) (h4.2 z)⟩
    · exact h1.elim


noncomputable def testsM (es : List Expr) (env : Env) (b : Bool) : Sem Bool := forIn es b fun c r => if r = true then do let ok ← isTrue c env (eval c env); pure (ForInStep.yield ok) else pure (ForInStep.yield r)

/-- what a turn does once the tests have passed -/
noncomputable def insideW (M : Model) (A : Around) (full elt : Expr) (gens : List Comprehension) (dp : Nat) (acc : Value) (env : Env) (P : Shared → Prop) (E : Value → Shared → Prop) (s : Shared) : Prop :=
  match gens[dp + 1]? with
  | some g' => wpAny M A (eval g'.iter env) (fun x s₁ => wpAny M A (foldedSetIterable g'.iter env x) (fun x s₂ => wpAny M A (pyIter x) (fun it s₃ =>
      codeAny M A (.compStart full (dp + 1) it acc env) (fun r s' => match r with | .ok _ => P s' | .error e => cameBackBy M A env E e s') s₃) E s₂) E s₁) E s
  | none => wpAny M A (eval elt env) (fun v s₁ => wpAny M A (call (.builtin "list.append") [acc, v]) (fun _ s₂ => P s₂) E s₁) E s

theorem wpAny_compTurn {M : Model} {A : Around} {E : Value → Shared → Prop} {s : Shared} {P : PySem.Fin → Shared → Prop} {elt : Expr} {gens : List Comprehension} {sc : Scope} {p : Pos} {dp : Nat} {it acc : Value} {env : Env} {tg itx : Expr} {ifs : List Expr} (hg : gens[dp]? = some ⟨tg, itx, ifs, 0⟩)
    (hn : ∀ g', gens[dp + 1]? = some g' → g'.is_async = 0)
    (h : wpAny M A (pyNext it) (fun r s₁ => match r with
      | none => P (.done .next) s₁
      | some v => wpAny M A (letOwnedTupleGo tg it v) (fun _ s₂ => wpAny M A (assign tg env v) (fun _ s₃ => wpAny M A (testsM ifs env true) (fun ok s₄ =>
          (ok = true → insideW M A (.ListComp elt gens sc p) elt gens dp acc env (fun s₅ => P (.again (.compLoop (.ListComp elt gens sc p) dp it acc env)) s₅) E s₄) ∧
          (ok = false → P (.again (.compLoop (.ListComp elt gens sc p) dp it acc env)) s₄)) E s₃) E s₂) E s₁) E s) :
    wpAny M A (compTurn (.ListComp elt gens sc p) dp it acc env) P E s := by
  unfold compTurn
  simp only [hg]
  refine wpAny_bind (wpAny_standAt ?_)
  rw [if_neg (by decide)]
  refine wpAny_bind (wpAny_mono h (fun r s₁ h₁ => ?_) fun _ _ x => x)
  cases r with
  | none => exact wpAny_pure h₁
  | some v =>
    refine wpAny_bind (wpAny_mono h₁ (fun _ s₂ h₂ => wpAny_bind (wpAny_mono h₂ (fun _ s₃ h₃ => wpAny_bind (wpAny_mono h₃ (fun ok s₄ h₄ => ?_) fun _ _ x => x)) fun _ _ x => x)) fun _ _ x => x)
    cases ok with
    | false => exact wpAny_pure (h₄.2 rfl)
    | true =>
      have h₅ := h₄.1 rfl
      rw [if_pos rfl]
      unfold insideW at h₅
      cases hg' : gens[dp + 1]? with
      | none =>
        simp only [hg'] at h₅ ⊢
        exact wpAny_bind (wpAny_bind (wpAny_mono h₅ (fun v s₅ h₆ => wpAny_bind (wpAny_mono h₆ (fun _ s₆ h₇ => wpAny_pure (wpAny_pure h₇)) fun _ _ x => x)) fun _ _ x => x))
      | some g' =>
        have ha := hn g' hg'
        simp only [hg', ha] at h₅ ⊢
        refine wpAny_bind (wpAny_mono h₅ (fun x s₅ h₆ => wpAny_bind (wpAny_standAt ?_)) fun _ _ x => x)
        rw [if_neg (by decide)]
        refine wpAny_bind (wpAny_mono h₆ (fun x s₆ h₇ => ?_) fun _ _ x => x)
        rw [if_neg (by decide)]
        refine wpAny_bind (wpAny_holding (wpAny_mono h₇ (fun it' s₇ h₈ => wpAny_bind (wpAny_mono (wpAny_runOwn (h := none) h₈) (fun _ s₈ h₉ => wpAny_pure h₉) fun _ _ x => x)) fun _ _ x => x))


theorem insideW_mono {M : Model} {A : Around} {full elt : Expr} {gens : List Comprehension} {dp : Nat} {acc : Value} {env : Env} {P P' : Shared → Prop} {E : Value → Shared → Prop} {s : Shared} (hp : ∀ s, P s → P' s) (h : insideW M A full elt gens dp acc env P E s) : insideW M A full elt gens dp acc env P' E s := by
  unfold insideW at h ⊢
  cases hg : gens[dp + 1]? with
  | none =>
    simp only [hg] at h ⊢
    exact wpAny_mono h (fun v s₁ h₁ => wpAny_mono h₁ (fun _ s₂ h₂ => hp _ h₂) fun _ _ x => x) fun _ _ x => x
  | some g' =>
    simp only [hg] at h ⊢
    exact wpAny_mono h (fun x s₁ h₁ => wpAny_mono h₁ (fun x s₂ h₂ => wpAny_mono h₂ (fun it s₃ h₃ => codeAny_mono h₃ fun r s' h' => by cases r with | ok f => exact hp _ h' | error e => exact h') fun _ _ x => x) fun _ _ x => x) fun _ _ x => x

section
variable {prog : Program} {w : World} {A : Around} {R : Result → Shared → Prop} {s : Shared} {elt : Expr} {gens : List Comprehension} {sc : Scope} {p : Pos} {dp : Nat} {it acc : Value} {env : Env} {tg itx : Expr} {ifs : List Expr}
theorem codeAny_compLoop_at (hg : gens[dp]? = some ⟨tg, itx, ifs, 0⟩) (hn : ∀ g', gens[dp + 1]? = some g' → g'.is_async = 0) (I : Nat → Shared → Prop)
    (turn : ∀ n s, I n s → ∀ E, wpAny (model prog w) A (pyNext it) (fun r s₁ => match r with
      | none => R (.ok .next) s₁
      | some v => wpAny (model prog w) A (letOwnedTupleGo tg it v) (fun _ s₂ => wpAny (model prog w) A (assign tg env v) (fun _ s₃ => wpAny (model prog w) A (testsM ifs env true) (fun ok s₄ =>
          (ok = true → insideW (model prog w) A (.ListComp elt gens sc p) elt gens dp acc env (fun s₅ => ∃ m, m < n ∧ I m s₅) E s₄) ∧
          (ok = false → ∃ m, m < n ∧ I m s₄)) E s₃) E s₂) E s₁) E s)
    (n : Nat) (h : I n s) : codeAny (model prog w) A (.compLoop (.ListComp elt gens sc p) dp it acc env) R s := by
  refine codeAny_loop rfl I (fun n s hI => ?_) n h
  show wpAny _ A ((compTurn (.ListComp elt gens sc p) dp it acc env).onRaise (fun x => do noteFrame x env; theTreesLotGoes x)) _ _ s
  refine wpAny_noted ?_
  refine wpAny_compTurn hg hn (wpAny_mono (turn n s hI _) (fun r s₁ h₁ => ?_) fun _ _ x => x)
  cases r with
  | none => exact h₁
  | some v => exact wpAny_mono h₁ (fun _ s₂ h₂ => wpAny_mono h₂ (fun _ s₃ h₃ => wpAny_mono h₃ (fun ok s₄ h₄ => ⟨fun z => insideW_mono (fun s₅ h₅ => ⟨rfl, h₅⟩) (h₄.1 z), fun z => ⟨rfl, h₄.2 z⟩⟩) fun _ _ x => x) fun _ _ x => x) fun _ _ x => x

theorem codeAny_compStart_at (hg : gens[dp]? = some ⟨tg, itx, ifs, 0⟩)
    (h0 : codeAny (model prog w) A (.compLoop (.ListComp elt gens sc p) dp it acc env) R s)
    (h : ∀ E, wpAny (model prog w) A (pyIter it) (fun it' s' => codeAny (model prog w) A (.compLoop (.ListComp elt gens sc p) dp it' acc env) R s') E s) :
    codeAny (model prog w) A (.compStart (.ListComp elt gens sc p) dp it acc env) R s := by
  refine codeAny_of_tree ?_
  show wpAny _ _ ((compStart (.ListComp elt gens sc p) dp it acc env).onRaise (fun x => do noteFrame x env; standAt theWindowsPlace)) _ _ s
  refine wpAny_notedAt ?_
  unfold compStart
  have hc : (clausesOf (.ListComp elt gens sc p))[dp]? = some ⟨tg, itx, ifs, 0⟩ := hg
  rw [hc]
  show wpAny _ _ (ask >>= _) _ _ s
  refine wpAny_bind (wpAny_askSetting (wpAny_ite ?_))
  split
  · first
      | exact wpAny_bind (wpAny_pure (wpAny_pure (And.intro rfl h0)))
      | exact wpAny_pure (And.intro rfl h0)
  · refine wpAny_bind (wpAny_rule ?_)
    refine wpAny_bind (wpAny_standAt ?_)
    exact wpAny_bind (wpAny_mono (h _) (fun it' s' h' => wpAny_pure (And.intro rfl h')) fun _ _ x => x)
end


section
variable {c : Cx} {r : Nat} {fx : Fx} {vs : Vis} {st : St}

/-- an object kept apart turns -/
theorem RelF.turnAv {ρ : Rho} {s s' : Shared} {I : Addr} (R : RelF c fx ρ st s) (hA : I ∈ fx.av) (hI : I ∉ fx.own) (hk : ∀ b o, b ≠ I → s.heap.get? b = some o → s'.heap.get? b = some o) (hal : ∃ o, s'.heap.get? I = some o)
    (os : s'.os = s.os) (gens : s'.gens = s.gens) (tk : s.toks ≤ s'.toks) : RelF c fx ρ st s' := by
  have mav : I ∈ fx.own ++ fx.av := List.mem_append.mpr (.inr hA)
  have nI : I ∉ ρ.addrs := fun h => R.rel.off I h mav
  have still : ∀ a o, Still s.heap (fx.mv ρ) a o → Still s'.heap (fx.mv ρ) a o := fun a o x => ⟨hk a o (fun e => x.2 (by subst e; simp [Fx.mv, hA])) x.1, x.2⟩
  have own : ∀ a ∈ fx.own, a ≠ I := fun a h e => hI (e ▸ h)
  have old : ∀ b o, c.s0.heap.get? b = some o → b ≠ I := fun b o e q => by subst q; rw [R.rel.fresh b (.inr mav)] at e; cases e
  refine { rel := { base := fun b o e => hk b o (old b o e) (R.rel.base b o e), os := os.trans R.rel.os, gens := gens.trans R.rel.gens, toks := fun h => Nat.lt_of_lt_of_le (R.rel.toks h) tk, len := R.rel.len, objs := ?_, apart := R.rel.apart, off := R.rel.off, fresh := R.rel.fresh, avs := ?_ }, ns := ?_, lown := R.lown, slots := ?_, stos := R.stos, alive := ?_, nss := ?_ }
  · intro i p m e f
    exact (R.rel.objs i p m e f).mono (fun _ _ e => e) still (fun o => hk _ o fun q => nI (Rho.mem_addrs.mpr ⟨i, p, e, .inl q.symm⟩)) (fun o => hk _ o fun q => nI (Rho.mem_addrs.mpr ⟨i, p, e, .inr q.symm⟩))
  · intro a ha
    by_cases q : a = I
    · subst q; exact hal
    · obtain ⟨o, e⟩ := R.rel.avs a ha; exact ⟨o, hk a o q e⟩
  · obtain ⟨m, hn⟩ := R.ns
    exact ⟨m, hn.at' fun o => hk _ o (own _ R.lown)⟩
  · intro i v e
    obtain ⟨S, val, h1, h2, h3⟩ := R.slots i v e
    exact ⟨S, val, h1, h2.keeps fun o => hk _ o (own _ (R.stos i S h1)), h3.mono (fun _ _ e => e) still⟩
  · intro i S e h
    obtain ⟨o, v, a, b⟩ := R.alive i S e h
    exact ⟨o, v, hk _ _ (own _ (R.stos i S e)) a, b⟩
  · intro i S e h
    obtain ⟨m, a⟩ := R.nss i S e h
    exact ⟨m, a.at' fun o => hk _ o (own _ (R.stos i S e))⟩

/-- the list that a comprehension fills -/
structure Acc (c : Cx) (fx : Fx) (ρ : Rho) (s : Shared) (Da : Addr) (ds : List D) : Prop where
  av : Da ∈ fx.av
  nown : Da ∉ fx.own
  obj : ∃ vals n, s.heap.get? Da = some (lstObj vals n) ∧ Reps c.C (Still s.heap (fx.mv ρ)) ds vals

theorem Acc.nxt {ρ ρ' : Rho} {s s' : Shared} {Da : Addr} {ds : List D} (a : Acc c fx ρ s Da ds) (R : RelF c fx ρ st s) (N : Nxt fx.own ρ s ρ' s') : Acc c fx ρ' s' Da ds :=
  ⟨a.av, a.nown, by
    obtain ⟨vals, n, e, hr⟩ := a.obj
    exact ⟨vals, n, N.keep _ _ (fun h => R.rel.off _ h (List.mem_append.mpr (.inr a.av))) a.nown e, hr.mono fun b o x => N.still b o x⟩⟩

noncomputable def TGw (c : Cx) (fx : Fx) (Da : Addr) (W : (Shared → Prop) → (Value → Shared → Prop) → Shared → Prop) (st : St) (acc : List D) (k : St → List D → Prop) : Prop :=
  ∀ ρ s P E, RelF c fx ρ st s → Acc c fx ρ s Da acc → (∀ st' acc' ρ' s', RelF c fx ρ' st' s' → Acc c fx ρ' s' Da acc' → Nxt (Da :: fx.own) ρ s ρ' s' → k st' acc' → P s') → W P E s

theorem TG_emit {Da : Addr} {full elt : Expr} {gens : List Comprehension} {dp : Nat} {acc : List D} {k : St → List D → Prop} (hg : gens[dp + 1]? = none)
    (h : TE c fx (eval elt fx.env) st fun v st => match v.toD with
      | some d => acc.length < 2 ^ 20 ∧ k st (acc ++ [d])
      | none => False) : TGw c fx Da (insideW (model c.prog c.w) fx.A full elt gens dp (.ref Da) fx.env) st acc k := by
  intro ρ s P E R a q
  unfold insideW
  simp only [hg]
  refine h ρ s _ _ R fun v st1 ρ1 u s1 R1 N1 r1 h1 => ?_
  have a1 := a.nxt R N1
  cases v with
  | d d0 =>
    obtain ⟨hl, hk⟩ := h1
    obtain ⟨vals, n, e, hr⟩ := a1.obj
    refine wpAny_list_append_plain ⟨n, e⟩ (fun h' hp hs => ?_) (by rw [sizeLine_eq]; have := hr.length; simp; omega)
    obtain ⟨n', hp⟩ := hp
    have hp' : h'.get? Da = some (lstObj (vals ++ [u]) n') := by rw [hp]; simp [lstObj]
    have still : ∀ b o, Still s1.heap (fx.mv ρ1) b o → Still h' (fx.mv ρ1) b o := fun b o x => ⟨(hs.2 b (fun q => x.2 (by subst q; simp [Fx.mv, a.av]))).trans x.1, x.2⟩
    refine q st1 (acc ++ [d0]) ρ1 _ (R1.turnAv a.av a.nown (s' := { s1 with heap := h' }) (fun b o hb e => (hs.2 b hb).trans e) ⟨_, hp'⟩ rfl rfl (Nat.le_refl _)) ⟨a.av, a.nown, vals ++ [u], n', hp', (hr.mono still).append (.cons (Rep.mono still r1) .nil)⟩ ?_ hk
    refine (N1.more fun b hb => List.mem_cons_of_mem _ hb).trans ?_
    exact { keep := fun b ob _ hb e => (hs.2 b (fun q => hb (q ▸ List.mem_cons_self ..))).trans e
            alive := fun b e2 => by
              by_cases q : b = Da
              · subst q; have := hp'.symm.trans e2; cases this
              · exact (hs.2 b q).symm.trans e2
            pre := fun _ _ e => e
            new := fun _ h n => (n h).elim }
  | _ => exact h1.elim

theorem TBt_nil {k : KB} {env : Env} (h : k true st) : TB c fx (testsM [] env true) st k := fun _ _ _ _ R q => wpAny_pure (q _ _ _ _ R .refl h)
theorem tests_false {env : Env} : ∀ es : List Expr, testsM es env false = pure false
  | [] => by unfold testsM; rw [List.forIn_nil]
  | e :: es => by
    have := tests_false (env := env) es
    unfold testsM at this ⊢
    rw [List.forIn_cons]
    simp only [Bool.false_eq_true, if_false, pure_bind]
    exact this
theorem TBt_cons {e : Expr} {es : List Expr} {k : KB}
    (h : TB c fx (isTrue e fx.env (eval e fx.env)) st fun b st1 => (b = true → TB c fx (testsM es fx.env true) st1 k) ∧ (b = false → k false st1)) : TB c fx (testsM (e :: es) fx.env true) st k := by
  intro ρ s Q E R q
  unfold testsM
  rw [List.forIn_cons]
  simp only [if_true]
  refine wpAny_bind (wpAny_bind (h ρ s _ _ R fun b st1 ρ1 s1 R1 N1 h1 => wpAny_pure ?_))
  cases b with
  | true => exact h1.1 rfl ρ1 s1 Q E R1 fun v st3 ρ3 s3 R3 N3 h3 => q _ _ _ _ R3 (N1.trans N3) h3
  | false =>
    show wpAny _ _ (testsM es fx.env false) Q E s1
    rw [tests_false]
    exact wpAny_pure (q _ _ _ _ R1 N1 (h1.2 rfl))
end


section
variable {c : Cx} {r : Nat} {fx : Fx} {vs : Vis} {st : St}

theorem Acc.at {ρ : Rho} {s s1 : Shared} {Da I : Addr} {ds : List D} (a : Acc c fx ρ s Da ds) (g : Grow s s1) (hn : s.heap.get? I = none) : Acc c (fx.at I) ρ s1 Da ds :=
  ⟨List.mem_cons_of_mem _ a.av, a.nown, by
    obtain ⟨vals, n, e, hr⟩ := a.obj
    exact ⟨vals, n, g.keep _ _ e, hr.mono fun b o x => ⟨g.keep _ _ x.1, Fx.mv_at.mpr ⟨fun q => (by have := x.1; rw [q, hn] at this; cases this), x.2⟩⟩⟩⟩

theorem loopG_still {o : Option (Nat × List D)} {body : V → St → List D → (St → List D → Prop) → Prop} {xs : List V} {acc : List D} {k : St → List D → Prop} (h : loopG o body xs st acc k) : stillL o st := by
  cases xs with
  | nil => exact h.1
  | cons x xs => exact h.1

theorem comp_loop (ok : FxOk c r fx vs) {N : Nm} (hN : N.sl = fx.nm) {elt : Expr} {gens : List Comprehension} {sc : Scope} {p : Pos} {dp : Nat} {t : MT} {itx : Expr} {ifs : MBs} {rest : MC} {W : St → KV → Prop} {Da I : Addr} {k : St → List D → Prop}
    (hs : ∀ i ∈ tgtSlots t, i ∈ vs.stores) (hg : gens[dp]? = some ⟨toT N t, itx, toBs N ifs, 0⟩) (hgn : ∀ g', gens[dp + 1]? = some g' → g'.is_async = 0)
    (hT : ∀ st k, wpBs c r .And ifs st k → TB c (fx.at I) (testsM (toBs N ifs) fx.env true) st k)
    (hin : ∀ st acc k, wpG c r rest W st acc k → TGw c (fx.at I) Da (insideW (model c.prog c.w) fx.A (.ListComp elt gens sc p) elt gens dp (.ref Da) fx.env) st acc k)
    {xs : List V} {o : Option (Nat × List D)} {P : Nat → Heap → Prop} {ρ1 : Rho} {s2 : Shared} {st1 : St} {acc : List D} {R : Result → Shared → Prop}
    (R2 : RelF c (fx.at I) ρ1 st1 s2) (a2 : Acc c (fx.at I) ρ1 s2 Da acc) (nI : I ∉ fx.own) (nI2 : I ∉ fx.av) (aD : Da ∈ fx.av) (it0 : Iter c ρ1 (Still s2.heap ((fx.at I).mv ρ1)) I o xs P) (p0 : P 0 s2.heap)
    (h1 : loopG o (fun x st acc k => bindT t x st fun st => wpBs c r .And ifs st fun b st => (b = true → wpG c r rest W st acc k) ∧ (b = false → k st acc)) xs st1 acc k)
    (hR : ∀ st' acc' ρ' s' s'', RelF c fx ρ' st' s'' → Acc c fx ρ' s'' Da acc' → Nxt (I :: Da :: fx.own) ρ1 s2 ρ' s' → (∀ b o, b ≠ I → s'.heap.get? b = some o → s''.heap.get? b = some o) → k st' acc' → R (.ok .next) s'') :
    codeAny (model c.prog c.w) fx.A (.compLoop (.ListComp elt gens sc p) dp (.ref I) (.ref Da) fx.env) R s2 := by
  have nDI : Da ≠ I := fun e => nI2 (e ▸ aD)
  refine codeAny_compLoop_at hg hgn (fun n s' => ∃ i ρ' st' acc', n = xs.length + 1 - i ∧ i ≤ xs.length ∧ RelF c (fx.at I) ρ' st' s' ∧ Acc c (fx.at I) ρ' s' Da acc' ∧ Nxt (I :: Da :: fx.own) ρ1 s2 ρ' s' ∧ P i s'.heap ∧
    loopG o (fun x st acc k => bindT t x st fun st => wpBs c r .And ifs st fun b st => (b = true → wpG c r rest W st acc k) ∧ (b = false → k st acc)) (xs.drop i) st' acc' k) (fun n s' hI E => ?_) (xs.length + 1) ⟨0, ρ1, st1, acc, rfl, Nat.zero_le _, R2, a2, .refl, p0, h1⟩
  obtain ⟨i, ρ', st', acc', rfl, hi, R', a', N', pi, hk⟩ := hI
  have still : ∀ a ob, Still s2.heap ((fx.at I).mv ρ1) a ob → Still s'.heap ((fx.at I).mv ρ') a ob := fun a ob x => by
    have ne : a ≠ I ∧ a ≠ Da := ⟨(Fx.mv_at.mp x.2).1, fun e => x.2 (by subst e; simp [Fx.mv, Fx.at, aD])⟩
    have hx := x.2
    simp only [Fx.mv, List.mem_append, not_or] at hx
    have e1 := N'.keep a ob hx.1 (by simp only [List.mem_cons, not_or]; exact ⟨ne.1, ne.2, hx.2.1⟩) x.1
    refine ⟨e1, ?_⟩
    simp only [Fx.mv, List.mem_append, not_or]
    refine ⟨fun h => ?_, hx.2⟩
    have := N'.new a h hx.1
    rw [x.1] at this; cases this
  by_cases hlt : i < xs.length
  · refine withT (it0.item fx.A ρ' _ s' _ E i ok.room.handled N'.pre still (R'.tr (loopG_still hk)) pi hlt fun v x h' tk pn hkeep hxi rx ht => ?_)
    obtain ⟨ob, nm, eo, ec, ep⟩ := it0.cls (i + 1) h' pn
    have Rn : RelF c (fx.at I) ρ' st' { s' with heap := h', toks := tk } := R'.turnAt nI hkeep ⟨ob, eo⟩ rfl rfl ht
    have stn : ∀ a o, Still s'.heap ((fx.at I).mv ρ') a o → Still h' ((fx.at I).mv ρ') a o := fun a ob x => ⟨hkeep a ob (Fx.mv_at.mp x.2).1 x.1, x.2⟩
    have an : Acc c (fx.at I) ρ' { s' with heap := h', toks := tk } Da acc' := ⟨a'.av, a'.nown, by
      obtain ⟨vals, n, e, hr⟩ := a'.obj
      exact ⟨vals, n, hkeep _ _ nDI e, hr.mono stn⟩⟩
    have Nn : Nxt (I :: Da :: fx.own) ρ' s' ρ' { s' with heap := h', toks := tk } :=
      { keep := fun b ob _ hb e => hkeep b ob (fun q => hb (q ▸ List.mem_cons_self ..)) e
        alive := fun b e => by
          cases q : s'.heap.get? b with
          | none => rfl
          | some ob2 =>
            by_cases hb : b = I
            · subst hb; rw [eo] at e; cases e
            · rw [hkeep b ob2 hb q] at e; cases e
        pre := fun _ _ e => e
        new := fun _ h n => (n h).elim }
    refine letgo_plain (ob := ob) (n := nm) eo ec ep ?_
    rw [List.drop_eq_getElem_cons hlt] at hk
    have ex : xs[i] = x := by rw [List.getElem?_eq_getElem hlt] at hxi; exact Option.some.inj hxi
    rw [ex] at hk
    have more : ∀ {ρ s ρ' s'}, Nxt (fx.at I).own ρ s ρ' s' → Nxt (I :: Da :: fx.own) ρ s ρ' s' := fun N => N.more fun a ha => List.mem_cons_of_mem _ (List.mem_cons_of_mem _ ha)
    have moreD : ∀ {ρ s ρ' s'}, Nxt (Da :: (fx.at I).own) ρ s ρ' s' → Nxt (I :: Da :: fx.own) ρ s ρ' s' := fun N => N.more fun a ha => List.mem_cons_of_mem _ ha
    have frame : ∀ {ρ4 s4}, Nxt (Da :: (fx.at I).own) ρ' { s' with heap := h', toks := tk } ρ4 s4 → P (i + 1) s4.heap := fun N4 => it0.frame (i + 1) h' _ pn fun b ob2 hb e => by
      have nb : b ∉ ρ'.addrs ∧ b ∉ Da :: fx.own := by
        rcases hb with rfl | ⟨o', hs'⟩
        · exact ⟨fun h => R'.rel.off _ h mem_av, by simp only [List.mem_cons, not_or]; exact ⟨Ne.symm nDI, nI⟩⟩
        · have h2 := (still b o' hs').2
          have nd : b ≠ Da := fun e => h2 (by subst e; simp [Fx.mv, Fx.at, aD])
          simp only [Fx.mv, Fx.at, List.mem_append, not_or] at h2
          exact ⟨h2.1, by simp only [List.mem_cons, not_or]; exact ⟨nd, h2.2.1⟩⟩
      exact N4.keep b ob2 nb.1 nb.2 e
    refine bind_snd ok.at hN hs hk.2 ρ' { s' with heap := h', toks := tk } _ _ v Rn (rx.mono (fun _ _ e => e) stn) fun st3 ρ3 s3 R3 N3 hb3 => ?_
    have a3 := an.nxt Rn N3
    refine hT st3 _ hb3 ρ3 s3 _ E R3 fun b st4 ρ4 s4 R4 N4 h4 => ⟨fun hb => ?_, fun hb => ?_⟩
    · have a4 := a3.nxt R3 N4
      refine hin st4 acc' _ (h4.1 hb) ρ4 s4 _ E R4 a4 fun st5 acc5 ρ5 s5 R5 a5 N5 h5 => ?_
      have N6 : Nxt (Da :: (fx.at I).own) ρ' { s' with heap := h', toks := tk } ρ5 s5 := ((N3.trans N4).more fun a ha => List.mem_cons_of_mem _ ha).trans N5
      exact ⟨xs.length + 1 - (i + 1), by omega, i + 1, ρ5, st5, acc5, rfl, hlt, R5, a5, N'.trans (Nn.trans (moreD N6)), frame N6, h5⟩
    · have a4 := a3.nxt R3 N4
      have N6 : Nxt (Da :: (fx.at I).own) ρ' { s' with heap := h', toks := tk } ρ4 s4 := (N3.trans N4).more fun a ha => List.mem_cons_of_mem _ ha
      exact ⟨xs.length + 1 - (i + 1), by omega, i + 1, ρ4, st4, acc', rfl, hlt, R4, a4, N'.trans (Nn.trans (moreD N6)), frame N6, h4.2 hb⟩
  · have hie : i = xs.length := by omega
    subst hie
    refine withT (it0.done fx.A ρ' _ s' _ E ok.room.handled N'.pre still (R'.tr (loopG_still hk)) pi fun h' tk hkeep ht => ?_)
    rw [List.drop_length] at hk
    refine hR st' acc' ρ' _ _ (R'.leave nI nI2 hkeep rfl rfl ht) ⟨aD, a'.nown, ?_⟩ N' hkeep hk.2
    obtain ⟨vals, n, e, hr⟩ := a'.obj
    exact ⟨vals, n, hkeep _ _ nDI e, hr.mono fun b o x => ⟨hkeep b o (Fx.mv_at.mp x.2).1 x.1, (Fx.mv_at.mp x.2).2⟩⟩

theorem TG_clause (ok : FxOk c r fx vs) {N : Nm} (hN : N.sl = fx.nm) {elt : Expr} {gens : List Comprehension} {sc : Scope} {p : Pos} {dp : Nat} {t : MT} {itx : ME} {ifs : MBs} {rest : MC} {W : St → KV → Prop} {Da : Addr} {acc : List D} {k : St → List D → Prop}
    (hs : ∀ i ∈ tgtSlots t, i ∈ vs.stores) (hg : gens[dp + 1]? = some ⟨toT N t, toE N itx, toBs N ifs, 0⟩) (hgn : ∀ g', gens[dp + 1 + 1]? = some g' → g'.is_async = 0) (hf : ∀ x, foldedSetIterable (toE N itx) fx.env x = pure x)
    (hT : ∀ I st k, wpBs c r .And ifs st k → TB c (fx.at I) (testsM (toBs N ifs) fx.env true) st k)
    (hin : ∀ I st acc k, wpG c r rest W st acc k → TGw c (fx.at I) Da (insideW (model c.prog c.w) fx.A (.ListComp elt gens sc p) elt gens (dp + 1) (.ref Da) fx.env) st acc k)
    (h : TE c fx (eval (toE N itx) fx.env) st fun x st => match itemsOf st x with
      | some (xs, o) => loopG o (fun x st acc k => bindT t x st fun st => wpBs c r .And ifs st fun b st => (b = true → wpG c r rest W st acc k) ∧ (b = false → k st acc)) xs st acc k
      | none => False) : TGw c fx Da (insideW (model c.prog c.w) fx.A (.ListComp elt gens sc p) elt gens dp (.ref Da) fx.env) st acc k := by
  intro ρ s P E R a q
  unfold insideW
  simp only [hg]
  refine h ρ s _ _ R fun x st1 ρ1 u s1 R1 N1 r1 h1 => ?_
  have a1 := a.nxt R N1
  rw [hf]
  refine wpAny_pure ?_
  dsimp only at h1
  split at h1
  · rename_i xs o hx
    refine iter_start R1 r1 hx fun I s2 P0 hn g hal it0 p0 => ?_
    have nI : I ∉ fx.own := fun hI => by obtain ⟨ob, e⟩ := R1.rel.avs I (List.mem_append.mpr (.inl hI)); rw [hn] at e; cases e
    have nI2 : I ∉ fx.av := fun hI => by obtain ⟨ob, e⟩ := R1.rel.avs I (List.mem_append.mpr (.inr hI)); rw [hn] at e; cases e
    have loop := comp_loop ok hN (p := p) (sc := sc) (elt := elt) hs hg hgn (hT I) (hin I) (R := fun r s' => match r with | .ok _ => P s' | .error e => cameBackBy (model c.prog c.w) fx.A fx.env E e s') (R1.at g hn hal) (a1.at g hn) nI nI2 a1.av it0 p0 h1
      fun st' acc' ρ' s' s'' R' a' N' hkeep hk => q st' acc' ρ' s'' R' a' ((N1.more fun b hb => List.mem_cons_of_mem _ hb).trans (((g.nxt.trans N').less fun a ha => (List.mem_cons.mp ha).elim (fun e => .inr (e ▸ hn)) .inl).leave hn hkeep)) hk
    exact codeAny_compStart_at hg loop fun E => it0.self fx.A ok.room.handled 0 s2 _ E p0 loop
  · exact h1.elim
end


/-- the frame of a comprehension -/
noncomputable def cfx (fx : Fx) (own : List Nat) (sc : Scope) (cl : List (Str × Addr)) (C Da : Addr) : Fx :=
  { env := compEnvC sc cl C fx.env, A := fx.A, nm := fx.nm, sto := fun i => if i ∈ own then some ⟨C, false⟩ else fx.sto i, own := C :: fx.own, av := Da :: fx.av }

section
variable {c : Cx} {r : Nat} {fx : Fx} {vs : Vis} {st : St} {own : List Nat} {sc : Scope} {cl : List (Str × Addr)} {C Da I : Addr}

theorem own_none {ρ : Rho} {s : Shared} (R : RelF c fx ρ st s) (hown : ∀ i ∈ own, fx.sto i = none) {i : Nat} {v : V} (e : st.loc[i]? = some (some v)) : i ∉ own := fun hi => by
  obtain ⟨S, val, h1, _⟩ := R.slots i v e
  rw [hown i hi] at h1; cases h1

/-- into the comprehension -/
theorem RelF.comp {ρ : Rho} {s : Shared} (R : RelF c (((fx.at I).at Da).at C) ρ st s) (hown : ∀ i ∈ own, fx.sto i = none) (hns : ∃ m, s.heap.Ns C m) : RelF c ((cfx fx own sc cl C Da).at I) ρ st s := by
  have hset : ∀ a, a ∈ (((fx.at I).at Da).at C).own ++ (((fx.at I).at Da).at C).av ↔ a ∈ ((cfx fx own sc cl C Da).at I).own ++ ((cfx fx own sc cl C Da).at I).av := fun a => by
    simp only [Fx.at, cfx, List.mem_append, List.mem_cons]
    constructor
    · rintro (h | h | h | h | h)
      · exact .inl (.inr h)
      · exact .inl (.inl h)
      · exact .inr (.inr (.inl h))
      · exact .inr (.inl h)
      · exact .inr (.inr (.inr h))
    · rintro ((h | h) | h | h | h)
      · exact .inr (.inl h)
      · exact .inl h
      · exact .inr (.inr (.inr (.inl h)))
      · exact .inr (.inr (.inl h))
      · exact .inr (.inr (.inr (.inr h)))
  have still : ∀ a o, Still s.heap ((((fx.at I).at Da).at C).mv ρ) a o → Still s.heap (((cfx fx own sc cl C Da).at I).mv ρ) a o := fun a o x => ⟨x.1, fun h => x.2 (by
    rcases List.mem_append.mp h with h | h
    · exact List.mem_append_left _ h
    · exact List.mem_append_right _ ((hset a).mpr h))⟩
  have sto : ∀ i S, ((cfx fx own sc cl C Da).at I).sto i = some S → (i ∈ own ∧ S = ⟨C, false⟩) ∨ (i ∉ own ∧ fx.sto i = some S) := fun i S h => by
    have h' : (if i ∈ own then some (⟨C, false⟩ : Sto) else fx.sto i) = some S := h
    by_cases hi : i ∈ own
    · rw [if_pos hi] at h'; cases h'; exact .inl ⟨hi, rfl⟩
    · rw [if_neg hi] at h'; exact .inr ⟨hi, h'⟩
  refine { rel := { base := R.rel.base, os := R.rel.os, gens := R.rel.gens, toks := R.rel.toks, len := R.rel.len, objs := fun i p m e f => (R.rel.objs i p m e f).mono (fun _ _ e => e) still (fun _ e => e) (fun _ e => e), apart := R.rel.apart, off := fun a ha hb => R.rel.off a ha ((hset a).mpr hb), fresh := fun a ha => R.rel.fresh a (ha.imp _root_.id (hset a).mpr), avs := fun a ha => R.rel.avs a ((hset a).mpr ha) }, ns := hns, lown := List.mem_cons_self .., slots := ?_, stos := ?_, alive := ?_, nss := ?_ }
  · intro i v e
    have hi : i ∉ own := fun hi => by
      obtain ⟨S, val, h1, _⟩ := R.slots i v e
      have h1' : fx.sto i = some S := h1
      rw [hown i hi] at h1'; cases h1'
    obtain ⟨S, val, h1, h2, h3⟩ := R.slots i v e
    exact ⟨S, val, (if_neg hi).trans h1, h2, h3.mono (fun _ _ e => e) still⟩
  · intro i S h
    rcases sto i S h with ⟨_, rfl⟩ | ⟨_, h⟩
    · exact List.mem_cons_self ..
    · exact List.mem_cons_of_mem _ (R.stos i S h)
  · intro i S h hc
    rcases sto i S h with ⟨_, rfl⟩ | ⟨_, h⟩
    · cases hc
    · exact R.alive i S h hc
  · intro i S h hc
    rcases sto i S h with ⟨_, rfl⟩ | ⟨_, h⟩
    · exact hns
    · exact R.nss i S h hc
end


structure COk (c : Cx) (nm : Nat → Str) (vs : Vis) (own : List Nat) (inner : Vis) (sc : Scope) : Prop where
  kind : sc.kind = .function
  cell : ∀ x ∈ sc.names, x.2 ≠ .cell
  names : ∀ x ∈ sc.names, x.2 = .local → sc.names.lookup x.1 = some .local
  freeN : ∀ x ∈ sc.names, x.2 = .free → ∃ i ∈ vs.slots, i ∈ vs.cells ∧ nm i = x.1
  ownk : ∀ i ∈ own, i ∈ vs.free ∧ sc.names.lookup (nm i) = some .local ∧ (nm i == ("__debug__" : Str)) = false ∧ (nm i == ("__classdict__" : Str)) = false
  ne : ∃ i, i ∈ own
  ownd : ∀ i ∈ own, ∀ j ∈ own, i ≠ j → nm i ≠ nm j
  slots : ∀ i ∈ inner.slots, (i ∈ own ∧ i ∉ inner.cells) ∨ (i ∈ inner.cells ∧ i ∈ vs.slots ∧ i ∈ vs.cells ∧ sc.names.lookup (nm i) = some .free)
  stores : ∀ i ∈ inner.stores, i ∈ own ∧ i ∈ inner.slots
  globs : ∀ i ∈ inner.globs, ∃ x v, c.g i = some (x, v) ∧ sc.names.lookup x = some .globalImplicit
  free : ∀ i ∈ inner.free, i ∈ vs.free ∧ i ∉ own

theorem relabel_lookup {env : Env} {x : Str} {k : NameKind} : ∀ {names : List (Str × NameKind)}, names.lookup x = some k →
    (k ≠ .free → (names.map fun (n, k) => if (k == NameKind.free && env.scope.kind == .function && env.kindOf n == some .cell) then (n, NameKind.cell) else (n, k)).lookup x = some k) ∧
    (k = .free → (names.map fun (n, k) => if (k == NameKind.free && env.scope.kind == .function && env.kindOf n == some .cell) then (n, NameKind.cell) else (n, k)).lookup x = some .free ∨
      (names.map fun (n, k) => if (k == NameKind.free && env.scope.kind == .function && env.kindOf n == some .cell) then (n, NameKind.cell) else (n, k)).lookup x = some .cell)
  | [], h => by simp at h
  | (n, k1) :: rr, h => by
    have ih := fun h' => @relabel_lookup env x k rr h'
    cases hx : x == n with
    | true =>
      simp only [List.lookup_cons, hx] at h
      cases h
      constructor
      · intro hk
        have e : (k == NameKind.free) = false := by cases k <;> first | rfl | exact absurd rfl hk
        have hc : ¬ (k == NameKind.free && env.scope.kind == .function && env.kindOf n == some .cell) = true := by rw [e]; simp
        simp only [List.map_cons, if_neg hc, List.lookup_cons, hx]
      · rintro rfl
        by_cases hc : (NameKind.free == NameKind.free && env.scope.kind == .function && env.kindOf n == some .cell) = true
        · right; simp only [List.map_cons, if_pos hc, List.lookup_cons, hx]
        · left; simp only [List.map_cons, if_neg hc, List.lookup_cons, hx]
    | false =>
      simp only [List.lookup_cons, hx] at h
      have ih' := ih h
      by_cases hc : (k1 == NameKind.free && env.scope.kind == .function && env.kindOf n == some .cell) = true
      · simp only [List.map_cons, if_pos hc, List.lookup_cons, hx]; exact ih'
      · simp only [List.map_cons, if_neg hc, List.lookup_cons, hx]; exact ih'

theorem closure_go {env : Env} : ∀ (names : List (Str × NameKind)) (cs : List (Str × Addr)), (∀ x ∈ names, x.2 = .free → ∃ a, env.cells.lookup x.1 = some a) →
    ∃ cl, (forIn names cs fun (x : Str × NameKind) (cs : List (Str × Addr)) => (if (x.2 == .free) = true then (do let a ← cellOf env x.1; pure (ForInStep.yield ((x.1, a) :: cs))) else pure (ForInStep.yield cs) : Sem (ForInStep (List (Str × Addr))))) = pure cl ∧
      (∀ x a, cs.lookup x = some a → env.cells.lookup x = some a → cl.lookup x = some a) ∧ (∀ x a, (x, NameKind.free) ∈ names → env.cells.lookup x = some a → cl.lookup x = some a)
  | [], cs, _ => ⟨cs, by rw [List.forIn_nil], fun _ _ h _ => h, fun _ _ h => by simp at h⟩
  | (n, k) :: rr, cs, h => by
    rw [List.forIn_cons]
    by_cases hk : (k == NameKind.free) = true
    · have hk' : k = .free := by cases k <;> first | rfl | cases hk
      subst hk'
      obtain ⟨a, ha⟩ := h (n, .free) (List.mem_cons_self ..) rfl
      obtain ⟨cl, e1, e2, e3⟩ := closure_go rr ((n, a) :: cs) fun x hx => h x (List.mem_cons_of_mem _ hx)
      have ec : cellOf env n = pure a := by unfold cellOf; rw [ha]
      refine ⟨cl, ?_, fun x b hx hb => e2 x b ?_ hb, fun x b hx hb => ?_⟩
      · simp only [hk, if_true, ec, pure_bind]; exact e1
      · rw [List.lookup_cons]
        cases hxn : x == n with
        | true => have := eq_of_beq hxn; subst this; rw [ha] at hb; exact hb
        | false => exact hx
      · rcases List.mem_cons.mp hx with hx | hx
        · cases hx; rw [ha] at hb; cases hb
          exact e2 n a (by rw [List.lookup_cons]; simp) ha
        · exact e3 x b hx hb
    · obtain ⟨cl, e1, e2, e3⟩ := closure_go rr cs fun x hx => h x (List.mem_cons_of_mem _ hx)
      refine ⟨cl, ?_, e2, fun x b hx hb => ?_⟩
      · simp only [hk, if_false, pure_bind]; exact e1
      · rcases List.mem_cons.mp hx with hx | hx
        · cases hx; exact absurd rfl hk
        · exact e3 x b hx hb

theorem closure_ok {env : Env} {sc : Scope} (h : ∀ x ∈ sc.names, x.2 = .free → ∃ a, env.cells.lookup x.1 = some a) :
    ∃ cl, closureFor sc env = pure cl ∧ ∀ x a, (x, NameKind.free) ∈ sc.names → env.cells.lookup x = some a → cl.lookup x = some a := by
  obtain ⟨cl, e1, _, e3⟩ := closure_go sc.names [] h
  refine ⟨cl, ?_, e3⟩
  have e : closureFor sc env = ((forIn sc.names [] fun (x : Str × NameKind) (cs : List (Str × Addr)) => (if (x.2 == .free) = true then (do let a ← cellOf env x.1; pure (ForInStep.yield ((x.1, a) :: cs))) else pure (ForInStep.yield cs) : Sem (ForInStep (List (Str × Addr))))) >>= fun cs => pure cs) := rfl
  rw [e, e1]
  rfl

section
variable {c : Cx} {r : Nat} {fx : Fx} {vs : Vis} {own : List Nat} {sc : Scope} {inner : Vis} {C Da : Addr}

theorem lookup_mem {α : Type} {x : Str} {k : α} : ∀ {l : List (Str × α)}, l.lookup x = some k → (x, k) ∈ l
  | [], h => by simp at h
  | (n, k1) :: rr, h => by
    cases hx : x == n with
    | true => simp only [List.lookup_cons, hx] at h; cases h; have := eq_of_beq hx; subst this; exact List.mem_cons_self ..
    | false => simp only [List.lookup_cons, hx] at h; exact List.mem_cons_of_mem _ (lookup_mem h)

theorem COk.cl (ck : COk c fx.nm vs own inner sc) (ok : FxOk c r fx vs) : ∃ cl, closureFor sc fx.env = pure cl ∧ ∀ x a, (x, NameKind.free) ∈ sc.names → fx.env.cells.lookup x = some a → cl.lookup x = some a :=
  closure_ok fun x hx hf => by
    obtain ⟨i, hi, hc, e⟩ := ck.freeN x hx hf
    obtain ⟨_, _, h⟩ := ok.slot i hi
    rcases h with ⟨h, _⟩ | ⟨_, _, a, ha, _⟩
    · exact absurd hc h
    · exact ⟨a, e ▸ ha⟩

theorem COk.fxOk (ck : COk c fx.nm vs own inner sc) (ok : FxOk c r fx vs) {cl : List (Str × Addr)} (hcl : ∀ x a, (x, NameKind.free) ∈ sc.names → fx.env.cells.lookup x = some a → cl.lookup x = some a) (hC : ∀ (i : Nat) S, fx.sto i = some S → S.at_ ≠ C) :
    FxOk c r (cfx fx own sc cl C Da) inner where
  kind := ck.kind
  globals := ok.globals
  builtins := ok.builtins
  slot := fun i hi => by
    rcases ck.slots i hi with ⟨ho, hc⟩ | ⟨hc, hs, hvc, hf⟩
    · obtain ⟨_, hl, h1, h2⟩ := ck.ownk i ho
      exact ⟨h1, h2, .inl ⟨hc, (relabel_lookup hl).1 (by simp), if_pos ho⟩⟩
    · obtain ⟨h1, h2, h⟩ := ok.slot i hs
      rcases h with ⟨h, _⟩ | ⟨_, _, a, ha, hst⟩
      · exact absurd hvc h
      · have hno : i ∉ own := fun ho => by have := (ck.ownk i ho).2.1; rw [hf] at this; cases this
        exact ⟨h1, h2, .inr ⟨hc, (relabel_lookup hf).2 rfl |>.symm, a, hcl _ _ (lookup_mem hf) ha, (if_neg hno).trans hst⟩⟩
  store := fun i hi => by
    obtain ⟨ho, hs⟩ := ck.stores i hi
    refine ⟨hs, fun h => ?_⟩
    have h' : (cfx fx own sc cl C Da).env.kindOf (fx.nm i) = some .local := (relabel_lookup (ck.ownk i ho).2.1).1 (by simp)
    have h2 : (cfx fx own sc cl C Da).env.kindOf (fx.nm i) = some .free := h
    rw [h'] at h2; cases h2
  glob := fun i hi => by
    obtain ⟨x, v, e, hl⟩ := ck.globs i hi
    exact ⟨x, v, e, (relabel_lookup hl).1 (by simp)⟩
  inj := fun i j S T hij h1 h2 he => by
    have h1' : (if i ∈ own then some (⟨C, false⟩ : Sto) else fx.sto i) = some S := h1
    have h2' : (if j ∈ own then some (⟨C, false⟩ : Sto) else fx.sto j) = some T := h2
    by_cases hi : i ∈ own <;> by_cases hj : j ∈ own
    · rw [if_pos hi] at h1'; rw [if_pos hj] at h2'; cases h1'; cases h2'; exact ⟨rfl, rfl, ck.ownd i hi j hj hij⟩
    · rw [if_pos hi] at h1'; rw [if_neg hj] at h2'; cases h1'; exact absurd he.symm (hC j T h2')
    · rw [if_neg hi] at h1'; rw [if_pos hj] at h2'; cases h2'; exact absurd he (hC i S h1')
    · rw [if_neg hi] at h1'; rw [if_neg hj] at h2'; exact ok.inj i j S T hij h1' h2' he
  room := ok.room
  free := fun i hi => by
    obtain ⟨h1, h2⟩ := ck.free i hi
    exact (if_neg h2).trans (ok.free i h1)
  loc := let ⟨i, hi⟩ := ck.ne; ⟨i, if_pos hi⟩
end


section
variable {c : Cx} {r : Nat} {fx : Fx} {vs : Vis} {st : St} {own : List Nat} {sc : Scope} {inner : Vis} {cl : List (Str × Addr)} {C Da I : Addr}

theorem RelF.uncompAt {ρ' : Rho} {s'' : Shared} {st' : St} {l : List (Option V)} (R' : RelF c (cfx fx own sc cl C Da) ρ' st' s'') (hown : ∀ i ∈ own, fx.sto i = none) (hl : ∀ i v, l[i]? = some (some v) → i ∉ own) (ag : Agree own l st'.loc)
    (hstos : ∀ (i : Nat) S, fx.sto i = some S → S.at_ ∈ fx.own) (hloc : ∃ i, fx.sto i = some ⟨fx.env.locals, false⟩) : RelF c (fx.at C) ρ' ⟨st'.σ, l⟩ s'' := by
  have sub : ∀ a, a ∈ (fx.at C).own ++ (fx.at C).av → a ∈ (cfx fx own sc cl C Da).own ++ (cfx fx own sc cl C Da).av := fun a h => by
    simp only [cfx, Fx.at, List.mem_append, List.mem_cons] at h ⊢
    rcases h with h | h | h
    · exact .inl (.inr h)
    · exact .inl (.inl h)
    · exact .inr (.inr h)
  have still : ∀ a o, Still s''.heap ((cfx fx own sc cl C Da).mv ρ') a o → Still s''.heap ((fx.at C).mv ρ') a o := fun a o x => by
    have hx := x.2
    refine ⟨x.1, fun h => hx ?_⟩
    rcases List.mem_append.mp h with h | h
    · exact List.mem_append_left _ h
    · exact List.mem_append_right _ (sub a h)
  have sto : ∀ i S, fx.sto i = some S → i ∉ own ∧ (cfx fx own sc cl C Da).sto i = some S := fun i S h => by
    have hi : i ∉ own := fun hi => by rw [hown i hi] at h; cases h
    exact ⟨hi, (if_neg hi).trans h⟩
  obtain ⟨il, hil⟩ := hloc
  refine { rel := { base := R'.rel.base, os := R'.rel.os, gens := R'.rel.gens, toks := R'.rel.toks, len := R'.rel.len, objs := fun i p m e f => (R'.rel.objs i p m e f).mono (fun _ _ e => e) still (fun _ e => e) (fun _ e => e), apart := R'.rel.apart, off := fun a ha hb => R'.rel.off a ha (sub a hb), fresh := fun a ha => R'.rel.fresh a (ha.imp _root_.id (sub a)), avs := fun a ha => R'.rel.avs a (sub a ha) }, ns := ?_, lown := hstos il _ hil, slots := ?_, stos := hstos, alive := ?_, nss := ?_ }
  · exact R'.nss il _ (sto il _ hil).2 rfl
  · intro i v e
    have hi := hl i v e
    have e' : st'.loc[i]? = some (some v) := (ag.2 i hi).trans e
    obtain ⟨S, val, h1, h2, h3⟩ := R'.slots i v e'
    exact ⟨S, val, (if_neg hi).symm.trans h1, h2, h3.mono (fun _ _ e => e) still⟩
  · intro i S h hc
    exact R'.alive i S (sto i S h).2 hc
  · intro i S h hc
    exact R'.nss i S (sto i S h).2 hc

/-- the walk of a comprehension, up to what is done with its list -/
theorem comp_core (ok : FxOk c r fx vs) (ck : COk c fx.nm vs own inner sc) {N : Nm} (hN : N.sl = fx.nm) {elt : Expr} {gens : List Comprehension} {p : Pos} {t : MT} {itx : ME} {ifs : MBs} {rest : MC} {W : St → KV → Prop} {k : St → List D → Prop} {RR : Value → Addr → Result → Shared → Prop}
    (hs : ∀ i ∈ tgtSlots t, i ∈ inner.stores) (hg : gens[0]? = some ⟨toT N t, toE N itx, toBs N ifs, 0⟩) (hgn : ∀ g', gens[0 + 1]? = some g' → g'.is_async = 0)
    (hcl : closureFor sc fx.env = pure cl) (hcl2 : ∀ x a, (x, NameKind.free) ∈ sc.names → fx.env.cells.lookup x = some a → cl.lookup x = some a)
    (hT : ∀ fx', FxOk c r fx' inner → fx'.nm = fx.nm → ∀ st k, wpBs c r .And ifs st k → TB c fx' (testsM (toBs N ifs) fx'.env true) st k)
    (hin : ∀ fx' Da, FxOk c r fx' inner → fx'.nm = fx.nm → ∀ st acc k, wpG c r rest W st acc k → TGw c fx' Da (insideW (model c.prog c.w) fx'.A (.ListComp elt gens sc p) elt gens 0 (.ref Da) fx'.env) st acc k)
    {ρ : Rho} {s : Shared} {E : Value → Shared → Prop} (R : RelF c fx ρ st s)
    (h : TE c fx (eval (toE N itx) fx.env) st fun x st => match itemsOf st x with
      | some (xs, o) => loopG o (fun x st acc k => bindT t x st fun st => wpBs c r .And ifs st fun b st => (b = true → wpG c r rest W st acc k) ∧ (b = false → k st acc)) xs st [] k
      | none => False)
    (hRR : ∀ Da C st' acc' ρ' s'', RelF c (cfx fx own sc cl C Da) ρ' st' s'' → Acc c (cfx fx own sc cl C Da) ρ' s'' Da acc' → C ∉ fx.own → C ∉ fx.av → Da ≠ C → Da ∉ fx.own → Da ∉ fx.av → s.heap.get? C = none →
      (∀ s3 : Shared, (∀ b o, b ≠ C → s''.heap.get? b = some o → s3.heap.get? b = some o) → Nxt fx.own ρ s ρ' s3) → k st' acc' → RR (.ref Da) C (.ok .next) s'') :
    wpAny (model c.prog c.w) fx.A (eval (toE N itx) fx.env) (fun x s₁ => wpAny (model c.prog c.w) fx.A (pyIter x) (fun it s₂ => wpAny (model c.prog c.w) fx.A (newList []) (fun acc s₃ =>
      wpAny (model c.prog c.w) fx.A (newFunctionEnv sc fx.env.globals cl [] fx.env.qual none .none (some fx.env)) (fun cenv s₄ =>
        codeAny (model c.prog c.w) fx.A (.compStart (.ListComp elt gens sc p) 0 it acc { cenv with scope := relabel sc fx.env }) (RR acc cenv.locals) s₄) E s₃) E s₂) E s₁) E s := by
  refine h ρ s _ _ R fun x st1 ρ1 u s1 R1 N1 r1 h1 => ?_
  dsimp only at h1
  split at h1
  · rename_i xs o hx
    refine iter_start R1 r1 hx fun I s2 P0 hn g hal it0 p0 => ?_
    have R2 := R1.at g hn hal
    refine wpAny_newList ?_
    have n3 := get_end s2.heap
    have g3 : Grow s2 { s2 with heap := s2.heap.push (lstObj [] 0) } := .push
    have R3 : RelF c ((fx.at I).at s2.heap.objs.size) ρ1 st1 { s2 with heap := s2.heap.push (lstObj [] 0) } := R2.at g3 n3 ⟨_, Heap.get?_push_size _ rfl⟩
    refine wpAny_newFunctionEnv ck.cell (by intro y hy; simp at hy) (fun h4 hns hsb => ?_) ck.kind
    have hDa : ∃ Da, Da = s2.heap.objs.size := ⟨_, rfl⟩
    obtain ⟨Da, eDa⟩ := hDa
    rw [← eDa] at n3 R3
    have hH : ∃ H, H = s2.heap.push (lstObj [] 0) := ⟨_, rfl⟩
    obtain ⟨H, eH⟩ := hH
    have dDa : H.get? Da = some (lstObj [] 0) := by rw [eH, eDa]; exact Heap.get?_push_size _ rfl
    have k3 : ∀ b o, s2.heap.get? b = some o → H.get? b = some o := fun b o e => by rw [eH]; exact Heap.get?_push_of_some _ e
    have eH' : s2.heap.push { cls := .type "list", data := .seq ([] : List Value).toArray } = H := eH.symm
    rw [← eH] at R3
    change h4.Ns (s2.heap.push { cls := .type "list", data := .seq ([] : List Value).toArray }).objs.size _ at hns
    change Heap.SameBut (s2.heap.push { cls := .type "list", data := .seq ([] : List Value).toArray }).objs.size ((s2.heap.push { cls := .type "list", data := .seq ([] : List Value).toArray }).push _) h4 at hsb
    show codeAny _ _ (.compStart _ 0 (.ref I) (.ref s2.heap.objs.size) (compEnvC sc cl (s2.heap.push { cls := .type "list", data := .seq ([] : List Value).toArray }).objs.size fx.env)) (RR (.ref s2.heap.objs.size) (s2.heap.push { cls := .type "list", data := .seq ([] : List Value).toArray }).objs.size) { s2 with heap := h4, toks := s2.toks + 0 }
    rw [eH', ← eDa]
    rw [eH'] at hns hsb
    have hC : ∃ C, C = H.objs.size := ⟨_, rfl⟩
    obtain ⟨C, eC⟩ := hC
    rw [← eC] at hns hsb ⊢
    have nC : H.get? C = none := by rw [eC]; exact get_end H
    have k4 : ∀ b o, H.get? b = some o → h4.get? b = some o := fun b o e => (hsb.2 b (fun q => by rw [q, nC] at e; cases e)).trans (Heap.get?_push_of_some _ e)
    have k24 : ∀ b o, s2.heap.get? b = some o → h4.get? b = some o := fun b o e => k4 b o (k3 b o e)
    have g4 : Grow { s2 with heap := H } { s2 with heap := h4, toks := s2.toks + 0 } := ⟨k4, rfl, rfl, Nat.le_refl _⟩
    have R4 := R3.at g4 nC (Ns.alive hns)
    have hown : ∀ i ∈ own, fx.sto i = none := fun i hi => ok.free i (ck.ownk i hi).1
    have R5 := R4.comp (own := own) (sc := sc) (cl := cl) hown ⟨_, hns⟩
    have nDC : Da ≠ C := fun e => by rw [e, nC] at dDa; cases dDa
    have ow1 : ∀ a, s1.heap.get? a = none → a ∉ fx.own ∧ a ∉ fx.av ∧ a ∉ ρ1.addrs := fun a ha => by
      have := R1.not_mv ha
      simp only [Fx.mv, List.mem_append, not_or] at this
      exact ⟨this.2.1, this.2.2, this.1⟩
    have n1C : s1.heap.get? C = none := by
      cases q : s1.heap.get? C with
      | none => rfl
      | some ob => have := k3 _ _ (g.keep _ _ q); rw [nC] at this; cases this
    have n1D : s1.heap.get? Da = none := by
      cases q : s1.heap.get? Da with
      | none => rfl
      | some ob => have := g.keep _ _ q; rw [n3] at this; cases this
    have nIC : I ≠ C := fun e => by obtain ⟨ob, q⟩ := hal; have := k3 _ _ q; rw [e, nC] at this; cases this
    have nID : I ≠ Da := fun e => by obtain ⟨ob, q⟩ := hal; rw [e, n3] at q; cases q
    have a5 : Acc c ((cfx fx own sc cl C Da).at I) ρ1 { s2 with heap := h4, toks := s2.toks + 0 } Da [] :=
      ⟨by simp [cfx, Fx.at], by simp only [cfx, Fx.at, List.mem_cons, not_or]; exact ⟨nDC, (ow1 _ n1D).1⟩, [], 0, k4 _ _ dDa, .nil⟩
    have hCs : ∀ (i : Nat) S, fx.sto i = some S → S.at_ ≠ C := fun i S h e => (ow1 _ n1C).1 (e ▸ R1.stos i S h)
    have it1 := it0.move (B' := Still h4 (((cfx fx own sc cl C Da).at I).mv ρ1)) fun a ob x => by
      have hx := x.2
      refine ⟨k24 _ _ x.1, ?_⟩
      have nD : a ≠ Da := fun e => by have := x.1; rw [e, n3] at this; cases this
      have nCC : a ≠ C := fun e => by have := k3 _ _ x.1; rw [e, nC] at this; cases this
      simp only [Fx.mv, Fx.at, cfx, List.mem_append, List.mem_cons, not_or] at hx ⊢
      exact ⟨hx.1, ⟨nCC, hx.2.1⟩, hx.2.2.1, nD, hx.2.2.2⟩
    have p1 : P0 0 h4 := it0.frame 0 _ _ p0 fun b ob _ e => k24 _ _ e
    have loop := comp_loop (ck.fxOk (C := C) (Da := Da) ok hcl2 hCs) (N := N) hN (p := p) (sc := sc) (elt := elt) hs hg hgn (hT _ (ck.fxOk (C := C) (Da := Da) ok hcl2 hCs).at rfl) (hin _ Da (ck.fxOk (C := C) (Da := Da) ok hcl2 hCs).at rfl) (R := RR (.ref Da) C) R5 a5
      (by simp only [cfx, List.mem_cons, not_or]; exact ⟨nIC, (ow1 _ hn).1⟩) (by simp only [cfx, List.mem_cons, not_or]; exact ⟨nID, (ow1 _ hn).2.1⟩) (by simp [cfx]) it1 p1 h1
      fun st' acc' ρ' s' s'' R' a' N' hkeep hk => hRR Da C st' acc' ρ' s'' R' a' (ow1 _ n1C).1 (ow1 _ n1C).2.1 nDC (ow1 _ n1D).1 (ow1 _ n1D).2.1 (N1.alive _ n1C) (fun s3 k5 => N1.trans (by
        have up : ∀ b o, s1.heap.get? b = some o → b ≠ I ∧ b ≠ Da ∧ b ≠ C ∧ h4.get? b = some o := fun b o e => ⟨fun q => (by rw [q, hn] at e; cases e), fun q => (by rw [q, n1D] at e; cases e), fun q => (by rw [q, n1C] at e; cases e), k24 _ _ (g.keep _ _ e)⟩
        exact { keep := fun b o h1 h2 e => by
                  obtain ⟨a1, a2, a3, a4⟩ := up b o e
                  exact k5 b o a3 (hkeep b o a1 (N'.keep b o h1 (by simp only [cfx, List.mem_cons, not_or]; exact ⟨a1, a2, a3, h2⟩) a4))
                alive := fun b e => by
                  cases q : s1.heap.get? b with
                  | none => rfl
                  | some o =>
                    obtain ⟨a1, a2, a3, a4⟩ := up b o q
                    cases q' : s'.heap.get? b with
                    | none => have := N'.alive b q'; rw [a4] at this; cases this
                    | some o' => have := k5 b o' a3 (hkeep b o' a1 q'); rw [this] at e; cases e
                pre := N'.pre
                new := fun a h n => by
                  have := N'.new a h n
                  cases q : s1.heap.get? a with
                  | none => rfl
                  | some o => have := (up a o q).2.2.2.symm.trans this; cases this })) hk
    exact codeAny_compStart_at hg loop fun E => it1.self fx.A ok.room.handled 0 _ _ E p1 loop
  · exact h1.elim
end


section
variable {c : Cx} {r : Nat} {fx : Fx} {vs : Vis} {st : St} {own : List Nat} {sc : Scope} {inner : Vis} {cl : List (Str × Addr)} {C Da I : Addr}

theorem toC_async {N : Nm} : ∀ (cs : MC) (n : Nat) (g : Comprehension), (toC N cs)[n]? = some g → g.is_async = 0
  | .nil, n, g, h => by cases h
  | .cons t it ifs rest, 0, g, h => by cases h; rfl
  | .cons t it ifs rest, n + 1, g, h => toC_async rest n g h

/-- the comprehension's list, once it is left -/
theorem acc_rep {ρ' : Rho} {s'' s3 : Shared} {st' : St} {acc : List D} (R' : RelF c (cfx fx own sc cl C Da) ρ' st' s'') (a' : Acc c (cfx fx own sc cl C Da) ρ' s'' Da acc) (h1 : Da ≠ C) (h2 : Da ∉ fx.own) (h3 : Da ∉ fx.av)
    (hk : ∀ b o, b ≠ C → s''.heap.get? b = some o → s3.heap.get? b = some o) : VRep c.C ρ' (Still s3.heap ((fx.at C).mv ρ')) (.d (.list acc)) (.ref Da) := by
  obtain ⟨vals, n, e, hr⟩ := a'.obj
  have nD : Da ∉ ρ'.addrs := fun h => R'.rel.off Da h (List.mem_append.mpr (.inr a'.av))
  refine ⟨Da, vals, n, rfl, ⟨hk _ _ h1 e, Fx.mv_at.mpr ⟨h1, ?_⟩⟩, hr.mono fun a o x => ?_⟩
  · simp only [Fx.mv, List.mem_append, not_or]; exact ⟨nD, h2, h3⟩
  · have hx := x.2
    simp only [Fx.mv, cfx, List.mem_append, List.mem_cons, not_or] at hx
    refine ⟨hk a o hx.2.1.1 x.1, Fx.mv_at.mpr ⟨hx.2.1.1, ?_⟩⟩
    simp only [Fx.mv, List.mem_append, not_or]; exact ⟨hx.1, hx.2.1.2, hx.2.2.2⟩

theorem TE_comp (ok : FxOk c r fx vs) (ck : COk c fx.nm vs own inner sc) {N : Nm} (hN : N.sl = fx.nm) {elt : Expr} {p : Pos} {t : MT} {itx : ME} {ifs : MBs} {rest : MC} {W : St → KV → Prop} {k : KV}
    (hW : ∀ st (k k' : KV), Up st k k' → W st k → W st k') (hs : ∀ i ∈ tgtSlots t, i ∈ inner.stores) (htg : ∀ i ∈ (MC.cons t itx ifs rest).tgts, i ∈ own) (hf : ∀ x, foldedSetIterable (toE N itx) fx.env x = pure x)
    (hT : ∀ fx', FxOk c r fx' inner → fx'.nm = fx.nm → ∀ st k, wpBs c r .And ifs st k → TB c fx' (testsM (toBs N ifs) fx'.env true) st k)
    (hin : ∀ fx' Da, FxOk c r fx' inner → fx'.nm = fx.nm → ∀ st acc k, wpG c r rest W st acc k → TGw c fx' Da (insideW (model c.prog c.w) fx'.A (.ListComp elt (toC N (.cons t itx ifs rest)) sc p) elt (toC N (.cons t itx ifs rest)) 0 (.ref Da) fx'.env) st acc k)
    (hit : ∀ k, wpE c r itx st k → TE c fx (eval (toE N itx) fx.env) st k)
    (h : wpG c r (.cons t itx ifs rest) W st [] fun st' acc => k (.d (.list acc)) ⟨st'.σ, st.loc⟩) : TE c fx (eval (.ListComp elt (toC N (.cons t itx ifs rest)) sc p) fx.env) st k := by
  intro ρ s Q E R z
  obtain ⟨cl, hcl, hcl2⟩ := ck.cl ok
  have hown : ∀ i ∈ own, fx.sto i = none := fun i hi => ok.free i (ck.ownk i hi).1
  have h' := wpG_agree (own := own) (k' := fun st' acc => Agree own st.loc st'.loc ∧ k (.d (.list acc)) ⟨st'.σ, st.loc⟩) _ htg hW (fun st' acc' a h' => ⟨a, h'⟩) h
  dsimp only [wpG] at h'
  rw [eval_ListComp]
  refine wpAny_comprehension_free (use := none) (g := ⟨toT N t, toE N itx, toBs N ifs, 0⟩) (gs := toC N rest) rfl hf hcl ck.kind ck.names ?_
  refine comp_core (RR := fun acc C => compPost (model c.prog c.w) fx.A E none Q acc C) ok ck hN (N := N) (itx := itx) (ifs := ifs) (rest := rest) (W := W) (k := fun st' acc => Agree own st.loc st'.loc ∧ k (.d (.list acc)) ⟨st'.σ, st.loc⟩) hs rfl (fun g' hg' => toC_async (.cons t itx ifs rest) 1 g' hg') hcl hcl2 hT hin R (hit _ h') ?_
  intro Da C st' acc' ρ' s'' R' a' c1 c2 dC d1 d2 sC X hk
  obtain ⟨m, hm⟩ := R'.ns
  refine ⟨m, hm, fun h3 hs3 => ?_⟩
  have kp : ∀ b o, b ≠ C → s''.heap.get? b = some o → h3.get? b = some o := fun b o hb e => (hs3.2 b hb).trans e
  have R6 := R'.uncompAt (l := st.loc) hown (fun i v e => own_none R hown e) hk.1 R.stos ok.loc
  have R7 : RelF c fx ρ' ⟨st'.σ, st.loc⟩ { s'' with heap := h3 } := R6.leave c1 c2 kp rfl rfl (Nat.le_refl _)
  exact z _ _ ρ' _ _ R7 (X { s'' with heap := h3 } kp) ((acc_rep (s3 := { s'' with heap := h3 }) R' a' dC d1 d2 kp).mono (fun _ _ e => e) fun _ _ => still_off) hk.2

theorem TS_asgC (ok : FxOk c r fx vs) (ck : COk c fx.nm vs own inner sc) {N : Nm} (hN : N.sl = fx.nm) {elt : Expr} {p q : Pos} {i : Nat} {ip : Pos} {t : MT} {itx : ME} {ifs : MBs} {rest : MC} {W : St → KV → Prop} {k : KF}
    (hW : ∀ st (k k' : KV), Up st k k' → W st k → W st k') (hi : i ∈ vs.stores) (hs : ∀ i ∈ tgtSlots t, i ∈ inner.stores) (htg : ∀ i ∈ (MC.cons t itx ifs rest).tgts, i ∈ own) (hf : ∀ x, foldedSetIterable (toE N itx) fx.env x = pure x)
    (hsw : swapsWith (.ListComp elt (toC N (.cons t itx ifs rest)) sc p) (some (.Name (N.sl i) ip)) q.line fx.env = pure true)
    (hT : ∀ fx', FxOk c r fx' inner → fx'.nm = fx.nm → ∀ st k, wpBs c r .And ifs st k → TB c fx' (testsM (toBs N ifs) fx'.env true) st k)
    (hin : ∀ fx' Da, FxOk c r fx' inner → fx'.nm = fx.nm → ∀ st acc k, wpG c r rest W st acc k → TGw c fx' Da (insideW (model c.prog c.w) fx'.A (.ListComp elt (toC N (.cons t itx ifs rest)) sc p) elt (toC N (.cons t itx ifs rest)) 0 (.ref Da) fx'.env) st acc k)
    (hit : ∀ k, wpE c r itx st k → TE c fx (eval (toE N itx) fx.env) st k)
    (h : wpG c r (.cons t itx ifs rest) W st [] fun st' acc => i < st.loc.length ∧ k .next ⟨st'.σ, st.loc.set i (some (.d (.list acc)))⟩) :
    TS c fx (exec (.Assign [.Name (N.sl i) ip] (.ListComp elt (toC N (.cons t itx ifs rest)) sc p) q) fx.env) st k := by
  intro ρ s Q E R z
  obtain ⟨cl, hcl, hcl2⟩ := ck.cl ok
  have hown : ∀ i ∈ own, fx.sto i = none := fun i hi => ok.free i (ck.ownk i hi).1
  have h' := wpG_agree (own := own) (k' := fun st' acc => Agree own st.loc st'.loc ∧ i < st.loc.length ∧ k .next ⟨st'.σ, st.loc.set i (some (.d (.list acc)))⟩) _ htg hW (fun st' acc' a h' => ⟨a, h'⟩) h
  dsimp only [wpG] at h'
  rw [exec_Assign_Name_used _ _ _ _ hsw]
  refine wpAny_bind (wpAny_standAt (wpAny_bind ?_))
  show wpAny _ fx.A (do let _ ← comprehension (.ListComp elt (toC N (.cons t itx ifs rest)) sc p) sc fx.env _ (newList []) false (eval (toE N itx) fx.env) (some (assign (.Name (N.sl i) ip) fx.env))) _ _ s
  refine wpAny_bind (wpAny_mono (wpAny_comprehension_free (use := some (assign (.Name (N.sl i) ip) fx.env)) (Q := fun _ s' => Q .next s') (g := ⟨toT N t, toE N itx, toBs N ifs, 0⟩) (gs := toC N rest) rfl hf hcl ck.kind ck.names ?_) (fun _ s' hq => wpAny_pure (wpAny_pure hq)) fun _ _ e => e)
  refine comp_core (RR := fun acc C => compPost (model c.prog c.w) fx.A E (some (assign (.Name (N.sl i) ip) fx.env)) (fun _ s' => Q .next s') acc C) ok ck hN (N := N) (itx := itx) (ifs := ifs) (rest := rest) (W := W) (k := fun st' acc => Agree own st.loc st'.loc ∧ i < st.loc.length ∧ k .next ⟨st'.σ, st.loc.set i (some (.d (.list acc)))⟩) hs rfl (fun g' hg' => toC_async (.cons t itx ifs rest) 1 g' hg') hcl hcl2 hT hin R (hit _ h') ?_
  intro Da C st' acc' ρ' s'' R' a' c1 c2 dC d1 d2 sC X hk
  obtain ⟨m, hm⟩ := R'.ns
  have R6 := R'.uncompAt (l := st.loc) hown (fun i v e => own_none R hown e) hk.1 R.stos ok.loc
  show wpAny _ fx.A (assign (.Name (N.sl i) ip) fx.env (.ref Da)) _ _ s''
  rw [hN]
  refine TOst_name ok.at (i := i) (p := ip) hi (st := ⟨st'.σ, st.loc⟩) hk.2.1 (k := k .next) hk.2.2 ρ' s'' _ E (.ref Da) R6 (acc_rep (s3 := s'') R' a' dC d1 d2 fun _ _ _ e => e) fun st4 ρ4 s4 R8 N8 h8 => ?_
  have nC : C ∉ ρ'.addrs := fun h => R'.rel.off C h (by simp [cfx])
  refine ⟨m, hm.at' fun o e => N8.keep C o nC c1 e, fun h3 hs3 => ?_⟩
  have kp : ∀ b o, b ≠ C → s4.heap.get? b = some o → h3.get? b = some o := fun b o hb e => (hs3.2 b hb).trans e
  have R9 : RelF c fx ρ4 st4 { s4 with heap := h3 } := R8.leave c1 c2 kp rfl rfl (Nat.le_refl _)
  have X8 : Nxt fx.own ρ s ρ4 { s4 with heap := h3 } := ((X s'' fun _ _ _ e => e).trans N8).leave (I := C) sC kp
  exact z .next st4 ρ4 .next _ R9 X8 .next h8
end


section
variable {c : Cx} {r : Nat} {fx : Fx} {vs : Vis} {st : St}

/-- a class's text -/
theorem TE_catt (O : Ok c) (ok : FxOk c r fx vs) {i gi : Nat} {x y v : Str} {a : Addr} {p q : Pos} {k : KV} (hi : gi ∈ vs.globs) (hc : c.ca i = some (gi, x, v)) (hg : c.g gi = some (y, .stat a)) (h : k (.d (.str v)) st) :
    TE c fx (eval (.Attribute (.Name y p) x q) fx.env) st k := by
  intro ρ s Q E R z
  obtain ⟨y', a', mc, t, e1, e2, e3, e4, e5⟩ := O.ca i gi x v hc
  rw [hg] at e1; cases e1
  refine attr_any (fun Q' hq => hq) (load_glob O ok R hi hg fun val hval => ?_)
  cases hval
  exact cls_value (K_in O R) e3 e4 e5 (z _ _ _ _ _ (R.grow .tk) (Grow.nxt .tk) (show VRep _ _ _ (.d (.str v)) _ from ⟨t, rfl⟩) h)

/-- one value for several names -/
theorem setOne_snd (ok : FxOk c r fx vs) {N : Nm} (hN : N.sl = fx.nm) : ∀ (is : List (Nat × Pos)) (x : V) (st : St) (k : St → Prop) (hs : ∀ x ∈ is, x.1 ∈ vs.stores) (h : setAll (is.map (·.1)) (is.map fun _ => x) st k) (ρ : Rho) (s : Shared) (Q : Unit → Shared → Prop) (E : Value → Shared → Prop) (val : Value),
    RelF c fx ρ st s → VRep c.C ρ (Still s.heap (fx.mv ρ)) x val → (∀ st' ρ' s', RelF c fx ρ' st' s' → Nxt fx.own ρ s ρ' s' → k st' → Q () s') →
    wpAny (model c.prog c.w) fx.A (assignAll val (is.map fun x => assign (.Name (N.sl x.1) x.2) fx.env)) Q E s
  | [], x, st, k, hs, h, ρ, s, Q, E, val, R, hv, q => wpAny_pure (q _ _ _ R .refl h)
  | [i], x, st, k, hs, h, ρ, s, Q, E, val, R, hv, q => by
    obtain ⟨h1, h2⟩ := h
    show wpAny _ _ (assign (.Name (N.sl i.1) i.2) fx.env val) Q E s
    rw [hN]
    exact TOst_name ok (hs i (List.mem_cons_self ..)) h1 (k := k) h2 ρ s _ _ val R hv q
  | i :: j :: is, x, st, k, hs, h, ρ, s, Q, E, val, R, hv, q => by
    obtain ⟨h1, h2⟩ := h
    show wpAny _ _ (do holding [val] (assign (.Name (N.sl i.1) i.2) fx.env val); assignAll val ((j :: is).map fun x => assign (.Name (N.sl x.1) x.2) fx.env)) Q E s
    refine wpAny_bind (wpAny_holding ?_)
    have e : assign (.Name (N.sl i.1) i.2) fx.env val = assign (.Name (fx.nm i.1) i.2) fx.env val := by rw [hN]
    rw [e]
    refine TOst_name ok (hs i (List.mem_cons_self ..)) h1 (k := fun st1 => setAll ((j :: is).map (·.1)) ((j :: is).map fun _ => x) st1 k) h2 ρ s _ _ val R hv fun st1 ρ1 s1 R1 N1 hk => ?_
    exact setOne_snd ok hN (j :: is) x st1 k (fun x hx => hs x (List.mem_cons_of_mem _ hx)) hk ρ1 s1 Q E val R1 (hv.nxt N1) fun st' ρ' s' R' N' hk' => q st' ρ' s' R' (N1.trans N') hk'

theorem TS_asgs (ok : FxOk c r fx vs) {N : Nm} (hN : N.sl = fx.nm) {is : List (Nat × Pos)} {e : Expr} {p : Pos} {k : KF} (hs : ∀ x ∈ is, x.1 ∈ vs.stores) (h2 : 2 ≤ is.length)
    (h : TE c fx (eval e fx.env) st fun x st => setAll (is.map (·.1)) (is.map fun _ => x) st (k .next)) : TS c fx (exec (.Assign (nameEs N is) e p) fx.env) st k := by
  intro ρ s Q E R z
  obtain ⟨a, b, rest, rfl⟩ : ∃ a b rest, is = a :: b :: rest := by
    match is, h2 with
    | a :: b :: rest, _ => exact ⟨a, b, rest, rfl⟩
  refine wpAny_Assign_stores (h ρ s _ _ R fun x st1 ρ1 u s1 R1 N1 r1 h1 => ?_) rfl rfl
  rw [assignEach_names]
  have := setOne_snd ok hN (a :: b :: rest) x st1 (k .next) hs h1 ρ1 s1 (fun _ => Q .next) E u R1 r1 fun st' ρ' s' R' N' hk => z .next st' ρ' .next s' R' (N1.trans N') .next hk
  simpa [List.map_map, Function.comp_def] using this

theorem TS_unp (ok : FxOk c r fx vs) {N : Nm} (hN : N.sl = fx.nm) {is : List (Nat × Pos)} {kk : Nat} {tp p : Pos} {e : ME} {k : KF} (hs : ∀ x ∈ is, x.1 ∈ vs.stores) (hw : swappedStores [.Tuple (nameEs N is) kk tp] (toE N e) fx.env = pure none)
    (h : TE c fx (eval (toE N e) fx.env) st fun x st => match x with
      | .d (.tup ds) => setAll (is.map (·.1)) (ds.map .d) st (k .next)
      | _ => False) : TS c fx (exec (.Assign [.Tuple (nameEs N is) kk tp] (toE N e) p) fx.env) st k := by
  intro ρ s Q E R z
  have hsw : swapsWithSole [.Tuple (nameEs N is) kk tp] (toE N e) p.line fx.env = pure false := by cases e <;> rfl
  refine Assign_Tuple (h ρ s _ _ R fun x st1 ρ1 u s1 R1 N1 r1 h1 => ?_) hsw hw
  dsimp only at h1
  split at h1
  · exact unp_snd ok hN hs h1 ρ1 s1 _ _ u R1 r1 fun st' ρ' s' R' N' hk => z .next st' ρ' .next s' R' (N1.trans N') .next hk
  · exact h1.elim

theorem setAllB_snd (ok : FxOk c r fx vs) {N : Nm} (hN : N.sl = fx.nm) : ∀ (is : List Nat) (xs : List V) (st : St) (k : St → Prop) (hs : ∀ x ∈ is, x ∈ vs.stores) (h : setAll is xs st k) (ρ : Rho) (s : Shared) (Q : Unit → Shared → Prop) (E : Value → Shared → Prop) (vals : List Value),
    RelF c fx ρ st s → VReps c.C ρ (Still s.heap (fx.mv ρ)) xs vals → (∀ st' ρ' s', RelF c fx ρ' st' s' → Nxt fx.own ρ s ρ' s' → k st' → Q () s') →
    wpAny (model c.prog c.w) fx.A (assignInOrder (is.map fun x => bindName fx.env (N.sl x)) vals) Q E s
  | [], [], st, k, hs, h, ρ, s, Q, E, vals, R, hv, q => wpAny_pure (q _ _ _ R .refl h)
  | [], _ :: _, _, _, _, h, _, _, _, _, _, _, _, _ => h.elim
  | _ :: _, [], _, _, _, h, _, _, _, _, _, _, _, _ => h.elim
  | i :: is, x :: xs, st, k, hs, h, ρ, s, Q, E, vals, R, hv, q => by
    obtain ⟨v, vr, rfl, r1, r2⟩ := hv
    obtain ⟨h1, h2⟩ := h
    show wpAny _ _ (do holding vr (bindName fx.env (N.sl i) v); assignInOrder (is.map fun x => bindName fx.env (N.sl x)) vr) Q E s
    refine wpAny_bind (wpAny_holding ?_)
    have e : bindName fx.env (N.sl i) v = bindName fx.env (fx.nm i) v := by rw [hN]
    rw [e]
    refine wpAny_bindName (store_slot ok R (hs i (List.mem_cons_self ..)) h1 r1 fun s1 R1 N1 => ?_)
    exact setAllB_snd ok hN is xs _ k (fun x hx => hs x (List.mem_cons_of_mem _ hx)) h2 ρ s1 Q E vr R1 (r2.nxt N1) fun st' ρ' s' R' N' hk' => q st' ρ' s' R' (N1.trans N') hk'

theorem VReps.rev {C : Addr} {ρ : Rho} {P : ObjAt} : ∀ {xs : List V} {vs : List Value}, VReps C ρ P xs vs → VReps C ρ P xs.reverse vs.reverse
  | [], _, h => by dsimp only [VReps] at h; subst h; rfl
  | x :: xs, _, ⟨v, r, e, a, b⟩ => by
    subst e
    rw [List.reverse_cons, List.reverse_cons]
    exact b.rev.append (.cons a .nil)

theorem TS_swap (ok : FxOk c r fx vs) {N : Nm} (hN : N.sl = fx.nm) {is : List (Nat × Pos)} {kk ek : Nat} {tp ep p : Pos} {es : MEs} {k : KF} (hs : ∀ x ∈ is, x.1 ∈ vs.stores)
    (hw : swappedStores [.Tuple (nameEs N is) kk tp] (.Tuple (toEs N es) ek ep) fx.env = pure (some (is.map fun x => N.sl x.1)))
    (h : TEs c fx (spliced (backTo ep (starEach (toEs N es) fx.env))) st fun xs st => match toDs xs with
      | some ds => ds.length ≤ 1000 ∧ setAll (is.map (·.1)).reverse (ds.map .d).reverse st (k .next)
      | none => False) : TS c fx (exec (.Assign [.Tuple (nameEs N is) kk tp] (.Tuple (toEs N es) ek ep) p) fx.env) st k := by
  intro ρ s Q E R z
  have tup := TE_tup (c := c) (fx := fx) (st := st) (kk := ek) (p := ep) (es := es) (N := N) (k := fun x st => match x with
    | .d (.tup ds) => setAll (is.map (·.1)).reverse (ds.map .d).reverse st (k .next)
    | _ => False) (by
      intro ρ s Q E R z
      exact h ρ s Q E R fun xs st1 ρ1 vals s1 R1 N1 r1 h1 => z xs st1 ρ1 vals s1 R1 N1 r1 h1)
  refine Assign_Tuple_swapped (tup ρ s _ _ R fun x st1 ρ1 u s1 R1 N1 r1 h1 => ?_) rfl hw
  dsimp only at h1
  split at h1
  · rename_i ds
    obtain ⟨a, us, n, rfl, pa, hr⟩ := r1
    have hl : is.length = us.length := by have := setAll_len h1; simp at this; rw [this, hr.length]
    have fresh := get_end s1.heap
    have e0 : (is.map fun x => N.sl x.1).length = us.toArray.size := by simp [hl]
    rw [e0]
    refine wpAny_unpackItems_tuple ok.room.handled (items := us.toArray) ⟨_, pa.1, rfl, n, rfl⟩ fun h' he => ?_
    have hk : ∀ b o, s1.heap.get? b = some o → h'.get? b = some o := fun b o e => he b o (fun q => by rw [q, fresh] at e; cases e) e
    have g : Grow s1 { s1 with heap := h' } := ⟨hk, rfl, rfl, Nat.le_refl _⟩
    have := setAllB_snd ok hN (is.map (·.1)).reverse (ds.map V.d).reverse st1 (k .next) (fun x hx => by simp at hx; obtain ⟨b, hb⟩ := hx; exact hs _ hb) h1 ρ1 { s1 with heap := h' } (fun _ => Q .next) E us.reverse (R1.grow g) (reps_d (hr.mono (still_grow g))).rev fun st' ρ' s' R' N' hk' => z .next st' ρ' .next s' R' (N1.trans (g.nxt.trans N')) .next hk'
    simpa [List.map_map, List.map_reverse, Function.comp_def] using this
  · exact h1.elim

theorem TS_exp (ok : FxOk c r fx vs) {e : Expr} {p : Pos} {k : KF} (hsw : swapsWith e none p.line fx.env = pure false) (h : TE c fx (eval e fx.env) st fun v st => v = .d .none ∧ k .next st) : TS c fx (exec (.Expr e p) fx.env) st k := by
  intro ρ s Q E R z
  refine wpAny_Expr (h ρ s _ _ R fun v st1 ρ1 u s1 R1 N1 r1 h1 => ?_) (by unfold interactive; rw [ok.kind]; rfl) hsw
  obtain ⟨rfl, hk⟩ := h1
  cases r1
  exact z .next st1 ρ1 .next s1 R1 N1 .next hk
end


section
variable {c : Cx} {r : Nat} {fx : Fx} {vs : Vis} {st : St}

theorem emp_at {h : Heap} {a : Addr} {n : Nat} (e : h.get? a = some (dictOf [] n)) (prog : Program) (w : World) : h.DictAt (PySem.strKind prog w) a [] n :=
  ⟨_, _, e, by first | exact ⟨rfl, rfl⟩ | exact rfl | (unfold Obj.ExactDict; simp), rfl, by intro x hx; simp at hx, by first | exact .nil | (unfold Pairs; simp), by simp⟩

/-- a for over an empty dict's items -/
theorem TS_forE (ok : FxOk c r fx vs) {N : Nm} (hN : N.sl = fx.nm) {t : Expr} {i : Nat} {ip p q fp : Pos} {body : List Stmt} {k : KF} (hi : i ∈ vs.slots) (hl : (p.endLine == q.line) = true) (hst : st.loc[i]? = some (some (.d .emp))) (h : k .next st) :
    TS c fx (exec (.For t (.Call (.Attribute (.Name (N.sl i) ip) "items" p) [] [] q) body [] fp) fx.env) st k := by
  intro ρ s Q E R z
  refine wpAny_For (method_call (kws := []) (args := []) (fun Q' hq => hq) rfl hl ?_) (fun _ => rfl)
  rw [hN]
  refine wpAny_Name (load_slot ok R hi hst fun val hv => ?_) (ok.slot i hi).1
  obtain ⟨a, n, rfl, hm, pa⟩ := hv
  have dm := emp_at pa.1 c.prog c.w
  refine getMethod_builtin (T := "dict") (id := "dict.items") ⟨_, pa.1, rfl⟩ PySem.F.plainAttrs_dict PySem.F.slot_dict_items PySem.F.type_dict_items (fun b e => by cases e; exact ⟨_, pa.1, rfl⟩) ?_
  refine callWith_of (P := fun _ => True) rfl (fun _ _ => ⟨_, .inr (.inl rfl), Looks.of_pure rfl⟩) (evalArgs_go rfl rfl (wpAny_items_nil (wpAny_pure ⟨trivial, ?_⟩)))
  refine call_meetsIn PySem.F.slot_dict_items ⟨_, pa.1, rfl⟩ PySem.F.entry_dict_items (PySem.F.args_dict_items_1 _) (meets_dict_items (PySem.strKind c.prog c.w) a hm) ⟨⟨[], dm.dictOf⟩, ?_⟩
  have k1 : ∀ b o, s.heap.get? b = some o → (s.heap.push { cls := .type "dict_items", data := .fields #[.ref a] }).get? b = some o := fun b o e => Heap.get?_push_of_some _ e
  have dm1 := emp_at (k1 _ _ pa.1) c.prog c.w
  refine wpAny_pyIter_items (knd := PySem.strKind c.prog c.w) (d := a) ⟨_, Heap.get?_push_size _ rfl, rfl, rfl⟩ dm1 ?_
  refine codeAny_forLoop_any (fun _ s' => s' = { s with heap := (s.heap.push { cls := .type "dict_items", data := .fields #[.ref a] }).push { cls := .type "dict_itemiterator", data := .fields #[.none, .bool false, .ref a, .int 0 0, .int 0 0, .int n 0, .none, .none] } }) (fun m s' hs' => ?_) 0 rfl
  subst hs'
  have k2 : ∀ b o, s.heap.get? b = some o → ((s.heap.push { cls := .type "dict_items", data := .fields #[.ref a] }).push { cls := .type "dict_itemiterator", data := .fields #[.none, .bool false, .ref a, .int 0 0, .int 0 0, .int n 0, .none, .none] }).get? b = some o := fun b o e => Heap.get?_push_of_some _ (k1 b o e)
  refine wpAny_pyNext_items_end (knd := PySem.strKind c.prog c.w) (kvs := []) (i := 0) ok.room.handled (Heap.get?_push_size _ rfl) (emp_at (k2 _ _ pa.1) c.prog c.w) rfl fun h' he => ?_
  refine wpAny_execs_nil ?_
  have g : Grow s { s with heap := h' } := ⟨fun b o e => he b o (fun q => by
    have := Heap.lt_size e
    rw [q, Heap.size_push] at this
    exact absurd this (Nat.not_lt.mpr (Nat.le_succ _))) (k2 b o e), rfl, rfl, Nat.le_refl _⟩
  exact z .next st ρ .next _ (R.grow g) g.nxt .next h
end


noncomputable def kwOk : Option (Bool × Nat × Pos × Pos) → Bool := fun _ => true
noncomputable def notComp : ME → Bool
  | .comp .. => false
  | _ => true
noncomputable def plainT : ME → Bool
  | .cmp .. => false
  | .un .. => false
  | .or2 .. => false
  | .and2 .. => false
  | .ife .. => false
  | _ => true
noncomputable def MEs.len : MEs → Nat
  | .nil => 0
  | .cons _ r => r.len + 1

/-- what must stand of an expression's names and lines, whatever the frame -/
noncomputable def biOk : Bi → BV → Prop := fun b v => biV b = v

mutual
noncomputable def wfE (c : Cx) (nm : Nat → Str) : Vis → ME → Prop
  | vs, .var i _ => i ∈ vs.slots
  | vs, .int .. => True
  | vs, .str .. => True
  | vs, .bool .. => True
  | vs, .non .. => True
  | vs, .dbg _ => True
  | vs, .glb g _ => g ∈ vs.globs
  | vs, .bin _ a b _ => wfE c nm vs a ∧ wfE c nm vs b
  | vs, .cmp _ a b _ => wfE c nm vs a ∧ wfE c nm vs b
  | vs, .un _ a _ => wfE c nm vs a
  | vs, .or2 a b _ => wfE c nm vs a ∧ wfE c nm vs b
  | vs, .and2 a b _ => wfE c nm vs a ∧ wfE c nm vs b
  | vs, .ife t a b _ => wfB c nm vs t ∧ wfE c nm vs a ∧ wfE c nm vs b
  | vs, .lst _ es _ => wfEs c nm vs es
  | vs, .tup es _ _ => wfEs c nm vs es
  | vs, .sub a i _ => wfE c nm vs a ∧ wfE c nm vs i
  | vs, .slc a lo hi s _ _ => wfE c nm vs a ∧ wfO c nm vs lo ∧ wfO c nm vs hi ∧ wfO c nm vs s
  | vs, .att a _ _ => wfE c nm vs a
  | vs, .catt k _ _ => ∃ g x v, c.ca k = some (g, x, v) ∧ g ∈ vs.globs
  | vs, .call ck g args _ _ => g ∈ vs.globs ∧ wfEs c nm vs args ∧ (match ck with
    | .bi b => ∃ x, c.g g = some (x, .bi (biV b))
    | _ => ∃ x f, c.g g = some (x, .stat f))
  | vs, .meth mk o args kw p q => (match mk with
    | .user m => ∃ x, c.ms m = some x
    | .bi _ => kw = none) ∧ (p.endLine == q.line) = true ∧ args.len ≤ 20 ∧ wfE c nm vs o ∧ wfEs c nm vs args
  | vs, .lzip .. => False
  | vs, .repl o _ _ _ _ _ _ p q => False
  | vs, .comp e cs own inner sc _ => COk c nm vs own inner sc ∧ (match cs with
    | .nil => False
    | .cons t it ifs rest => wfE c nm vs it ∧ (∀ i ∈ tgtSlots t, i ∈ inner.stores) ∧ wfBs c nm inner ifs ∧ wfC c nm inner rest) ∧ wfE c nm inner e
noncomputable def wfEs (c : Cx) (nm : Nat → Str) : Vis → MEs → Prop
  | vs, .nil => True
  | vs, .cons e es => wfE c nm vs e ∧ wfEs c nm vs es
noncomputable def wfO (c : Cx) (nm : Nat → Str) : Vis → MO → Prop
  | vs, .none => True
  | vs, .some e => wfE c nm vs e
noncomputable def wfC (c : Cx) (nm : Nat → Str) : Vis → MC → Prop
  | vs, .nil => True
  | vs, .cons t it ifs rest => wfE c nm vs it ∧ (∀ i ∈ tgtSlots t, i ∈ vs.stores) ∧ wfBs c nm vs ifs ∧ wfC c nm vs rest
noncomputable def wfB (c : Cx) (nm : Nat → Str) : Vis → MB → Prop
  | vs, .val e => wfE c nm vs e ∧ plainT e = true
  | vs, .cmp _ a b _ => wfE c nm vs a ∧ wfE c nm vs b
  | vs, .not t _ => wfB c nm vs t
  | vs, .boo _ ts _ => wfBs c nm vs ts
noncomputable def wfBs (c : Cx) (nm : Nat → Str) : Vis → MBs → Prop
  | vs, .nil => True
  | vs, .cons t ts => wfB c nm vs t ∧ wfBs c nm vs ts
end

theorem fold_E {N : Nm} {env : Env} (e : ME) : ∀ x, foldedSetIterable (toE N e) env x = pure x := fun x => by cases e <;> rfl
theorem sub_E {N : Nm} (i : ME) : ∀ o v, ∃ ops, subscripted (toE N i) false o v = operate ops (getItem o v) := fun o v => by cases i <;> exact ⟨_, rfl⟩
theorem beh_E {N : Nm} {op : CmpOp} (b : ME) : behindInMarks op (toE N b) = false := by cases b <;> cases op <;> rfl
theorem len_E {N : Nm} : ∀ es : MEs, (toEs N es).length = es.len
  | .nil => rfl
  | .cons e r => by show (toEs N r).length + 1 = r.len + 1; rw [len_E r]
theorem val_E {N : Nm} {env : Env} (e : ME) (h : plainT e = true) : ∀ whole, isTrue (toE N e) env whole = (do let v ← whole; standAt (toE N e).pos; holding [v] (truthy v)) := fun whole => by cases e <;> first | rfl | cases h

section
variable {c : Cx} {r : Nat} {N : Nm}

theorem TE_dbg {fx : Fx} {st : St} {p : Pos} {k : KV} (h : k (.d (.bool true)) st) : TE c fx (eval (.Name "__debug__" p) fx.env) st k := by
  intro ρ s Q E R q
  show wpAny _ _ (do standAt p; debugConstant) Q E s
  exact wpAny_bind (wpAny_standAt (wpAny_bind (wpAny_rule (wpAny_pure (q _ _ _ _ _ R .refl .bool h)))))

theorem gl_of (hN : N.c = c) {i : Nat} {x : Str} {v : GV} (h : c.g i = some (x, v)) : N.gl i = x := by unfold Nm.gl; rw [hN, h]
theorem TE_bool' {fx : Fx} {st : St} {t : Sem Value} {k k' : KV} (h : TE c fx t st k) (hk : ∀ v s, k v s → k' v s) : TE c fx t st k' := TE_mono h hk

theorem TE_glb (O : Ok c) {fx : Fx} {vs : Vis} (ok : FxOk c r fx vs) (hN : N.c = c) {st : St} {g : Nat} {p : Pos} {k : KV} (hg : g ∈ vs.globs) (h : wpE c r (.glb g p) st k) : TE c fx (eval (.Name (N.gl g) p) fx.env) st k := by
  dsimp only [wpE] at h
  split at h
  · rename_i x a e; rw [gl_of hN e]; exact TE_gstat O ok hg e h
  · rename_i x n e; rw [gl_of hN e]; exact TE_gnum O ok hg e h
  · rename_i x e
    rw [gl_of hN e]
    exact fun ρ s Q E R q => load_glob O ok R hg e fun val hv => by cases hv; exact q _ _ _ _ _ R .refl (show VRep _ _ _ (.ty _) _ from rfl) h
  · rename_i x e
    rw [gl_of hN e]
    exact fun ρ s Q E R q => load_glob O ok R hg e fun val hv => by cases hv; exact q _ _ _ _ _ R .refl (show VRep _ _ _ (.ty _) _ from rfl) h
  · rename_i x b a e
    rw [gl_of hN e]
    exact fun ρ s Q E R q => load_glob O ok R hg e fun val hv => by cases hv; exact q _ _ _ _ _ R .refl (show VRep _ _ _ (.pat _ _) _ from rfl) h
  · exact h.elim
end


section
variable {c : Cx} {r : Nat} {N : Nm}

theorem TB_mono {fx : Fx} {st : St} {t : Sem Bool} {k k' : KB} (h : TB c fx t st k) (hk : ∀ v s, k v s → k' v s) : TB c fx t st k' :=
  fun ρ s Q E R q => h ρ s Q E R fun v st' ρ' s' a b e => q v st' ρ' s' a b (hk _ _ e)
theorem TEs_mono {fx : Fx} {st : St} {t : Sem (List Value)} {k k' : List V → St → Prop} (h : TEs c fx t st k) (hk : ∀ v s, k v s → k' v s) : TEs c fx t st k' :=
  fun ρ s Q E R q => h ρ s Q E R fun v st' ρ' val s' a b d e => q v st' ρ' val s' a b d (hk _ _ e)
theorem TS_mono {fx : Fx} {st : St} {t : Sem Flow} {k k' : KF} (h : TS c fx t st k) (hk : ∀ v s, k v s → k' v s) : TS c fx t st k' :=
  fun ρ s Q E R q => h ρ s Q E R fun f st' ρ' fl s' a b d e => q f st' ρ' fl s' a b d (hk _ _ e)

theorem TE_slc {fx : Fx} {st : St} {a : Expr} {lo hi sp : Option Expr} {p q : Pos} {k : KV} (hs : ∀ o i, ∃ ops, subscripted (.Slice lo hi sp q) false o i = operate ops (getItem o i))
    (h : TE c fx (eval a fx.env) st fun x st1 => TE c fx (evalPart lo fx.env) st1 fun l st2 => TE c fx (evalPart hi fx.env) st2 fun u st3 => TE c fx (evalPart sp fx.env) st3 fun z st4 => slcS x l u z st4 k) : TE c fx (eval (.Subscript a (.Slice lo hi sp q) p) fx.env) st k := by
  intro ρ s Q E R z
  refine Subscript_ (h ρ s _ _ R fun x st1 ρ1 u s1 R1 N1 r1 h1 => ?_)
  refine wpAny_Slice (h1 ρ1 s1 _ _ R1 fun l st2 ρ2 ul s2 R2 N2 r2 h2 => h2 ρ2 s2 _ _ R2 fun hh st3 ρ3 uh s3 R3 N3 r3 h3 => h3 ρ3 s3 _ _ R3 fun zz st4 ρ4 uz s4 R4 N4 r4 h4 => ?_)
  exact slcS_snd hs h4 R4 (((r1.nxt N2).nxt N3).nxt N4) ((r2.nxt N3).nxt N4) (r3.nxt N4) r4 fun v st' ρ' val s' R' N' r' hk => z _ _ _ _ _ R' (N1.trans (N2.trans (N3.trans (N4.trans N')))) r' hk

/-- what stands of the whole text -/
structure Std (c : Cx) (N : Nm) : Prop where
  ok : Ok c
  nc : N.c = c
  sup : ∀ i, (N.gl i == ("super" : Str)) = false
end


theorem drop_at {α : Type} {l : List α} {n : Nat} {x : α} {r : List α} (h : l.drop n = x :: r) : l[n]? = some x ∧ l.drop (n + 1) = r := by
  constructor
  · have := congrArg (fun m => m[0]?) h
    simpa using this
  · have := congrArg (List.drop 1) h
    simpa [List.drop_drop, Nat.add_comm] using this

theorem tgts_in {c : Cx} {nm : Nat → Str} {inner : Vis} : ∀ (cs : MC), wfC c nm inner cs → ∀ i ∈ cs.tgts, i ∈ inner.stores
  | .nil, _, i, hi => by cases hi
  | .cons t it ifs rest, w, i, hi => by
    rcases List.mem_append.mp hi with hi | hi
    · exact w.2.1 i hi
    · exact tgts_in rest w.2.2.2 i hi

mutual
theorem sndE {c : Cx} {r : Nat} {N : Nm} (S : Std c N) : ∀ (e : ME) {vs : Vis} {fx : Fx} {st : St} {k : KV}, FxOk c r fx vs → fx.nm = N.sl → wfE c N.sl vs e → wpE c r e st k → TE c fx (eval (toE N e) fx.env) st k
  | .var i p, vs, fx, st, k, ok, hn, w, h => by
    dsimp only [wpE] at h
    split at h
    · rename_i v e
      have := TE_var ok (p := p) w e h
      rw [hn] at this
      exact this
    · exact h.elim
  | .int i kk p, vs, fx, st, k, ok, hn, w, h => TE_int h
  | .str s kk p, vs, fx, st, k, ok, hn, w, h => TE_str h
  | .bool b kk p, vs, fx, st, k, ok, hn, w, h => TE_bool h
  | .non kk p, vs, fx, st, k, ok, hn, w, h => TE_none h
  | .dbg p, vs, fx, st, k, ok, hn, w, h => TE_dbg h
  | .glb g p, vs, fx, st, k, ok, hn, w, h => TE_glb S.ok ok S.nc w h
  | .bin op a b p, vs, fx, st, k, ok, hn, w, h => by
    dsimp only [wpE] at h
    exact TE_bin (TE_mono (sndE S a ok hn w.1 h) fun x st1 h1 => TE_mono (sndE S b ok hn w.2 h1) fun y st2 h2 => binS_snd h2)
  | .cmp op a b p, vs, fx, st, k, ok, hn, w, h => by
    dsimp only [wpE] at h
    exact TE_cmp (beh_E b) (TE_mono (sndE S a ok hn w.1 h) fun x st1 h1 => TE_mono (sndE S b ok hn w.2 h1) fun y st2 h2 => cmpS_snd ok.room h2)
  | .un op a p, vs, fx, st, k, ok, hn, w, h => by
    dsimp only [wpE] at h
    exact TE_un (TE_mono (sndE S a ok hn w h) fun x st1 h1 => unS_snd h1)
  | .or2 a b p, vs, fx, st, k, ok, hn, w, h => by
    dsimp only [wpE] at h
    exact TE_or2 (TE_mono (sndE S a ok hn w.1 h) fun x st1 h1 => truthS_snd (truthS_up (fun t st2 _ h2 => ⟨h2.1, fun z => sndE S b ok hn w.2 (h2.2 z)⟩) h1))
  | .and2 a b p, vs, fx, st, k, ok, hn, w, h => by
    dsimp only [wpE] at h
    exact TE_and2 (TE_mono (sndE S a ok hn w.1 h) fun x st1 h1 => truthS_snd (truthS_up (fun t st2 _ h2 => ⟨h2.1, fun z => sndE S b ok hn w.2 (h2.2 z)⟩) h1))
  | .ife t a b p, vs, fx, st, k, ok, hn, w, h => by
    dsimp only [wpE] at h
    exact TE_ife (TB_mono (sndB S t ok hn w.1 h) fun z st1 h1 => ⟨fun hz => sndE S a ok hn w.2.1 (h1.1 hz), fun hz => sndE S b ok hn w.2.2 (h1.2 hz)⟩)
  | .lst m es p, vs, fx, st, k, ok, hn, w, h => by
    dsimp only [wpE] at h
    exact TE_lst (sndEs S es ok hn w h)
  | .tup es kk p, vs, fx, st, k, ok, hn, w, h => by
    dsimp only [wpE] at h
    exact TE_tup (sndEs S es ok hn w h)
  | .sub a i p, vs, fx, st, k, ok, hn, w, h => by
    dsimp only [wpE] at h
    exact TE_sub (sub_E i) (TE_mono (sndE S a ok hn w.1 h) fun x st1 h1 => sndE S i ok hn w.2 h1)
  | .slc a lo hi s p q, vs, fx, st, k, ok, hn, w, h => by
    dsimp only [wpE] at h
    exact TE_slc (fun o v => by cases s <;> exact ⟨_, rfl⟩) (TE_mono (sndE S a ok hn w.1 h) fun x st1 h1 => TE_mono (sndO S lo ok hn w.2.1 h1) fun l st2 h2 => TE_mono (sndO S hi ok hn w.2.2.1 h2) fun u st3 h3 => sndO S s ok hn w.2.2.2 h3)
  | .att a ai p, vs, fx, st, k, ok, hn, w, h => by
    dsimp only [wpE] at h
    have := TE_att S.ok (N := N) S.sup (p := p) (ai := ai) (TE_mono (sndE S a ok hn w h) fun x st1 h1 => h1)
    rw [← S.nc] at this
    exact S.nc ▸ this
  | .catt i p q, vs, fx, st, k, ok, hn, w, h => by
    obtain ⟨g, x, v, e, hg⟩ := w
    dsimp only [wpE] at h; rw [e] at h
    obtain ⟨y, a, mc, t, e1, e2, e3, e4, e5⟩ := S.ok.ca i g x v e
    have e6 : N.cg i = y := by unfold Nm.cg; rw [S.nc, e]; exact gl_of S.nc e1
    have e7 : N.ca i = x := by unfold Nm.ca; rw [S.nc, e]
    show TE c fx (eval (.Attribute (.Name (N.cg i) p) (N.ca i) q) fx.env) st k
    rw [e6, e7]
    exact TE_catt S.ok ok hg e e1 h
  | .call ck g args p q, vs, fx, st, k, ok, hn, w, h => by
    dsimp only [wpE] at h
    show TE c fx (eval (.Call (.Name (N.gl g) p) (toEs N args) [] q) fx.env) st k
    obtain ⟨w1, w2, w3⟩ := w
    cases ck with
    | fn =>
      obtain ⟨x, f, hg⟩ := w3
      rw [gl_of S.nc hg]
      simp only [hg] at h
      exact TE_fn S.ok ok w1 hg (sndEs S args ok hn w2 h)
    | new =>
      obtain ⟨x, f, hg⟩ := w3
      rw [gl_of S.nc hg]
      simp only [hg] at h
      exact TE_fn S.ok ok w1 hg (sndEs S args ok hn w2 h)
    | bi b =>
      obtain ⟨x, hg⟩ := w3
      rw [gl_of S.nc hg]
      simp only [hg] at h
      exact TE_bi S.ok ok w1 hg (TEs_mono (sndEs S args ok hn w2 h) fun xs st1 h1 => biS_snd ok.room.handled h1)
  | .meth mk o args kw p q, vs, fx, st, k, ok, hn, w, h => by
    dsimp only [wpE] at h
    obtain ⟨w0, w1, w2, w3, w4⟩ := w
    have wl : (toEs N args).length ≤ 20 := by rw [len_E]; exact w2
    cases mk with
    | user m =>
      obtain ⟨⟨C, x, f⟩, hm⟩ := w0
      simp only [hm] at h
      have e1 : N.ms m = x := by unfold Nm.ms; rw [S.nc, hm]
      show TE c fx (eval (.Call (.Attribute (toE N o) (N.ms m) p) (toEs N args) (kwE N kw) q) fx.env) st k
      rw [e1]
      exact TE_meth S.ok ok S.nc S.sup hm w1 wl (TE_mono (sndE S o ok hn w3 h) fun y st1 h1 => ⟨h1.1, sndEs S args ok hn w4 h1.2⟩)
    | bi b =>
      have w0 : kw = none := w0
      subst w0
      exact TE_bm S.ok ok S.nc S.sup w1 wl (TE_mono (sndE S o ok hn w3 h) fun y st1 h1 => ⟨h1.2.1, sndEs S args ok hn w4 h1.2.2⟩)
  | .lzip gl gz a b p1 p2 p3 p4, vs, fx, st, k, ok, hn, w, h => w.elim
  | .repl o a ka pa b kb pb p q, vs, fx, st, k, ok, hn, w, h => w.elim
  | .comp e cs own inner sc p, vs, fx, st, k, ok, hn, w, h => by
    cases cs with
    | nil => dsimp only [wfE] at w; exact w.2.1.elim
    | cons t it ifs rest =>
      dsimp only [wpE] at h
      dsimp only [wfE] at w
      obtain ⟨ck, w2, w3⟩ := w
      obtain ⟨v1, v2, v3, v4⟩ := w2
      exact TE_comp (W := wpE c r e) ok (hn ▸ ck) hn.symm (fun st k k' hk => wpE_up e hk) v2 (by
        intro i hi
        rcases List.mem_append.mp hi with hi | hi
        · exact (ck.stores i (v2 i hi)).1
        · exact (ck.stores i (tgts_in rest v4 i hi)).1) (fold_E it) (fun fx' ok' hn' st k h => sndT S ifs ok' (hn'.trans hn) v3 h)
        (fun fx' Da ok' hn' st acc k h => sndG S rest (fun fx st k ok hn h => sndE S e ok hn w3 h) 0 ok' (hn'.trans hn) v4 rfl h) (fun k h => sndE S it ok hn v1 h) h
theorem sndEs {c : Cx} {r : Nat} {N : Nm} (S : Std c N) : ∀ (es : MEs) {vs : Vis} {fx : Fx} {st : St} {p : Pos} {k : List V → St → Prop}, FxOk c r fx vs → fx.nm = N.sl → wfEs c N.sl vs es → wpEs c r es st k → TEs c fx (spliced (backTo p (starEach (toEs N es) fx.env))) st k
  | .nil, vs, fx, st, p, k, ok, hn, w, h => TEs_nil h
  | .cons e es, vs, fx, st, p, k, ok, hn, w, h => by
    dsimp only [wpEs] at h
    exact TEs_cons (star_toE e) (TE_mono (sndE S e ok hn w.1 h) fun x st1 h1 => sndEs S es ok hn w.2 h1)
theorem sndO {c : Cx} {r : Nat} {N : Nm} (S : Std c N) : ∀ (o : MO) {vs : Vis} {fx : Fx} {st : St} {k : KV}, FxOk c r fx vs → fx.nm = N.sl → wfO c N.sl vs o → wpO c r o st k → TE c fx (evalPart (toO N o) fx.env) st k
  | .none, vs, fx, st, k, ok, hn, w, h => fun ρ s Q E R q => wpAny_pure (q _ _ _ _ _ R .refl .none h)
  | .some e, vs, fx, st, k, ok, hn, w, h => by
    dsimp only [wpO] at h
    exact sndE S e ok hn w h
theorem sndB {c : Cx} {r : Nat} {N : Nm} (S : Std c N) : ∀ (t : MB) {vs : Vis} {fx : Fx} {st : St} {k : KB}, FxOk c r fx vs → fx.nm = N.sl → wfB c N.sl vs t → wpB c r t st k → TB c fx (isTrue (toB N t) fx.env (eval (toB N t) fx.env)) st k
  | .val e, vs, fx, st, k, ok, hn, w, h => by
    dsimp only [wpB] at h
    exact TB_value (val_E e w.2) (TE_mono (sndE S e ok hn w.1 h) fun x st1 h1 => truthS_snd h1)
  | .cmp op a b p, vs, fx, st, k, ok, hn, w, h => by
    dsimp only [wpB] at h
    exact TB_cmp (beh_E b) (TE_mono (sndE S a ok hn w.1 h) fun x st1 h1 => TE_mono (sndE S b ok hn w.2 h1) fun y st2 h2 => cmpS_snd ok.room (cmpS_up (fun z st3 _ h3 => truthS_snd h3) h2))
  | .not t p, vs, fx, st, k, ok, hn, w, h => by
    dsimp only [wpB] at h
    exact TB_not (sndB S t ok hn w h)
  | .boo op ts p, vs, fx, st, k, ok, hn, w, h => by
    dsimp only [wpB] at h
    exact TB_bool (sndBs S op ts ok hn w h)
theorem sndBs {c : Cx} {r : Nat} {N : Nm} (S : Std c N) (op : BoolOp) : ∀ (ts : MBs) {vs : Vis} {fx : Fx} {st : St} {k : KB}, FxOk c r fx vs → fx.nm = N.sl → wfBs c N.sl vs ts → wpBs c r op ts st k → TB c fx (allTrue op (toBs N ts) fx.env) st k
  | .nil, vs, fx, st, k, ok, hn, w, h => by
    cases op with
    | And => exact TB_and_nil h
    | Or => exact TB_or_nil h
  | .cons t ts, vs, fx, st, k, ok, hn, w, h => by
    dsimp only [wpBs] at h
    cases op with
    | And => exact TB_and_cons (TB_mono (sndB S t ok hn w.1 h) fun b st1 h1 => ⟨fun z => sndBs S .And ts ok hn w.2 (h1.1 z), h1.2⟩)
    | Or => exact TB_or_cons (TB_mono (sndB S t ok hn w.1 h) fun b st1 h1 => ⟨h1.1, fun z => sndBs S .Or ts ok hn w.2 (h1.2 z)⟩)
theorem sndT {c : Cx} {r : Nat} {N : Nm} (S : Std c N) : ∀ (ts : MBs) {vs : Vis} {fx : Fx} {st : St} {k : KB}, FxOk c r fx vs → fx.nm = N.sl → wfBs c N.sl vs ts → wpBs c r .And ts st k → TB c fx (testsM (toBs N ts) fx.env true) st k
  | .nil, vs, fx, st, k, ok, hn, w, h => TBt_nil h
  | .cons t ts, vs, fx, st, k, ok, hn, w, h => by
    dsimp only [wpBs] at h
    exact TBt_cons (TB_mono (sndB S t ok hn w.1 h) fun b st1 h1 => ⟨fun z => sndT S ts ok hn w.2 (h1.1 z), h1.2⟩)
theorem sndG {c : Cx} {r : Nat} {N : Nm} (S : Std c N) : ∀ (cs : MC) {elt : Expr} {gens : List Comprehension} {sc : Scope} {p : Pos} {inner : Vis} {W : St → KV → Prop},
    (∀ (fx : Fx) st k, FxOk c r fx inner → fx.nm = N.sl → W st k → TE c fx (eval elt fx.env) st k) → ∀ (dp : Nat) {fx : Fx} {Da : Addr} {st : St} {acc : List D} {k : St → List D → Prop}, FxOk c r fx inner → fx.nm = N.sl → wfC c N.sl inner cs → gens.drop (dp + 1) = toC N cs → wpG c r cs W st acc k →
      TGw c fx Da (insideW (model c.prog c.w) fx.A (.ListComp elt gens sc p) elt gens dp (.ref Da) fx.env) st acc k
  | .nil, elt, gens, sc, p, inner, W, he, dp, fx, Da, st, acc, k, ok, hn, w, hd, h => by
    dsimp only [wpG] at h
    have hg : gens[dp + 1]? = none := by
      have this : (gens.drop (dp + 1))[0]? = none := by rw [hd]; rfl
      rw [List.getElem?_drop] at this
      exact this
    exact TG_emit hg (he fx st _ ok hn h)
  | .cons t it ifs rest, elt, gens, sc, p, inner, W, he, dp, fx, Da, st, acc, k, ok, hn, w, hd, h => by
    dsimp only [wpG] at h
    obtain ⟨w1, w2, w3, w4⟩ := w
    obtain ⟨d1, d2⟩ := drop_at (show gens.drop (dp + 1) = ⟨toT N t, toE N it, toBs N ifs, 0⟩ :: toC N rest from hd)
    exact TG_clause ok hn.symm (N := N) (itx := it) (ifs := ifs) (rest := rest) (W := W) w2 d1 (fun g' hg' => toC_async rest 0 g' (by rw [← d2]; simpa using hg')) (fold_E it) (fun I st k h => sndT S ifs ok.at hn w3 h) (fun I st acc k h => sndG S rest he (dp + 1) ok.at hn w4 d2 h) (sndE S it ok hn w1 h)
end


/-- what a frame's env tells of the names that are stored -/
noncomputable def Kinds (nm : Nat → Str) (vs : Vis) (env : Env) : Prop := env.blockKind = .function ∧ ∀ i ∈ vs.stores, (env.kindOf (nm i) == some NameKind.local) = !(vs.cells.contains i)

mutual
noncomputable def wfS (c : Cx) (N : Nm) : Vis → MS → Prop
  | vs, .asg i _ e _ => i ∈ vs.stores ∧ notComp e = true ∧ wfE c N.sl vs e
  | vs, .asgC sw i ip e cs own inner sc cp p => i ∈ vs.stores ∧ wfE c N.sl vs (.comp e cs own inner sc cp) ∧ (∀ env, Kinds N.sl vs env → swapsWith (toE N (.comp e cs own inner sc cp)) (some (.Name (N.sl i) ip)) p.line env = pure sw)
  | vs, .asgs is e _ => (∀ x ∈ is, x.1 ∈ vs.stores) ∧ 2 ≤ is.length ∧ wfE c N.sl vs e
  | vs, .unp is k tp e _ => (∀ x ∈ is, x.1 ∈ vs.stores) ∧ wfE c N.sl vs e ∧ (∀ env, Kinds N.sl vs env → swappedStores [.Tuple (nameEs N is) k tp] (toE N e) env = pure none)
  | vs, .swap is k tp es ek ep _ => (∀ x ∈ is, x.1 ∈ vs.stores) ∧ wfEs c N.sl vs es ∧ (∀ env, Kinds N.sl vs env → swappedStores [.Tuple (nameEs N is) k tp] (.Tuple (toEs N es) ek ep) env = pure (some (is.map fun x => N.sl x.1)))
  | vs, .aug i _ _ e _ => i ∈ vs.stores ∧ wfE c N.sl vs e
  | vs, .satt o _ _ e _ => wfE c N.sl vs o ∧ wfE c N.sl vs e
  | vs, .ssub a i _ e _ => wfE c N.sl vs a ∧ wfE c N.sl vs i ∧ wfE c N.sl vs e
  | vs, .exp e _ => notComp e = true ∧ wfE c N.sl vs e
  | vs, .iff t a b _ => wfB c N.sl vs t ∧ wfSs c N vs a ∧ wfSs c N vs b
  | vs, .whl t b _ => wfB c N.sl vs t ∧ wfSs c N vs b
  | vs, .for_ t it b _ => (∀ i ∈ tgtSlots t, i ∈ vs.stores) ∧ wfE c N.sl vs it ∧ wfSs c N vs b
  | vs, .forE _ i _ p q _ _ => i ∈ vs.slots ∧ (p.endLine == q.line) = true
  | vs, .ret e _ => wfE c N.sl vs e
  | vs, .brk _ => True
  | vs, .pas _ => True
  | vs, .raw _ => True
noncomputable def wfSs (c : Cx) (N : Nm) : Vis → MSs → Prop
  | vs, .nil => True
  | vs, .cons s r => wfS c N vs s ∧ wfSs c N vs r
end

theorem swaps_name {N : Nm} {x : Str} {ip : Pos} {l : Nat} {env : Env} (e : ME) (h : notComp e = true) : swapsWith (toE N e) (some (.Name x ip)) l env = pure false := by cases e <;> first | rfl | cases h
theorem swaps_none {N : Nm} {l : Nat} {env : Env} (e : ME) (h : notComp e = true) : swapsWith (toE N e) none l env = pure false := by cases e <;> first | rfl | cases h
mutual
theorem sndS {c : Cx} {r : Nat} {N : Nm} (S : Std c N) : ∀ (s : MS) {vs : Vis} {fx : Fx} {st : St} {k : KF}, FxOk c r fx vs → fx.nm = N.sl → Kinds N.sl vs fx.env → wfS c N vs s → wpS c r s st k → TS c fx (exec (toS N s) fx.env) st k
  | .asg i ip e p, vs, fx, st, k, ok, hn, kd, w, h => by
    dsimp only [wpS] at h
    show TS c fx (exec (.Assign [.Name (N.sl i) ip] (toE N e) p) fx.env) st k
    rw [← hn]
    exact TS_assign ok (swaps_name e w.2.1) w.1 (sndE S e ok hn w.2.2 h)
  | .asgC sw i ip e cs own inner sc cp p, vs, fx, st, k, ok, hn, kd, w, h => by
    dsimp only [wpS] at h
    obtain ⟨w1, w2, w3⟩ := w
    cases cs with
    | nil => dsimp only [wfE] at w2; exact w2.2.1.elim
    | cons t it ifs rest =>
      have w2' := w2
      dsimp only [wfE] at w2
      obtain ⟨ck, v, we⟩ := w2
      obtain ⟨v1, v2, v3, v4⟩ := v
      have tg : ∀ i ∈ (MC.cons t it ifs rest).tgts, i ∈ own := by
        intro i hi
        rcases List.mem_append.mp hi with hi | hi
        · exact (ck.stores i (v2 i hi)).1
        · exact (ck.stores i (tgts_in rest v4 i hi)).1
      cases sw with
      | true =>
        exact TS_asgC (W := wpE c r e) ok (hn ▸ ck) hn.symm (fun st k k' hk => wpE_up e hk) w1 v2 tg (fold_E it) (w3 fx.env kd) (fun fx' ok' hn' st k h => sndT S ifs ok' (hn'.trans hn) v3 h)
          (fun fx' Da ok' hn' st acc k h => sndG S rest (fun fx st k ok hn h => sndE S e ok hn we h) 0 ok' (hn'.trans hn) v4 rfl h) (fun k h => sndE S it ok hn v1 h) h
      | false =>
        show TS c fx (exec (.Assign [.Name (N.sl i) ip] (toE N (.comp e (.cons t it ifs rest) own inner sc cp)) p) fx.env) st k
        have hsw := w3 fx.env kd
        rw [← hn] at hsw ⊢
        refine TS_assign ok hsw w1 (sndE S (.comp e (.cons t it ifs rest) own inner sc cp) ok hn w2' ?_)
        dsimp only [wpE]
        exact h
  | .asgs is e p, vs, fx, st, k, ok, hn, kd, w, h => by
    dsimp only [wpS] at h
    exact TS_asgs ok hn.symm w.1 w.2.1 (sndE S e ok hn w.2.2 h)
  | .unp is kk tp e p, vs, fx, st, k, ok, hn, kd, w, h => by
    dsimp only [wpS] at h
    exact TS_unp ok hn.symm w.1 (w.2.2 fx.env kd) (sndE S e ok hn w.2.1 h)
  | .swap is kk tp es ek ep p, vs, fx, st, k, ok, hn, kd, w, h => by
    dsimp only [wpS] at h
    exact TS_swap ok hn.symm w.1 (w.2.2 fx.env kd) (sndEs S es ok hn w.2.1 h)
  | .aug i ip op e p, vs, fx, st, k, ok, hn, kd, w, h => by
    dsimp only [wpS] at h
    show TS c fx (exec (.AugAssign (.Name (N.sl i) ip) op (toE N e) p) fx.env) st k
    rw [← hn]
    split at h
    · rename_i v hv
      exact TS_aug ok w.1 hv (TE_mono (sndE S e ok hn w.2 h) fun x st1 h1 => augS_snd h1)
    · exact h.elim
  | .satt o ai op e p, vs, fx, st, k, ok, hn, kd, w, h => by
    dsimp only [wpS] at h
    show TS c fx (exec (.Assign [.Attribute (toE N o) (N.c.an ai) op] (toE N e) p) fx.env) st k
    rw [S.nc]
    exact TS_satt S.ok (TE_mono (sndE S e ok hn w.2 h) fun v st1 h1 => sndE S o ok hn w.1 h1)
  | .ssub a i sp e p, vs, fx, st, k, ok, hn, kd, w, h => by
    dsimp only [wpS] at h
    exact TS_ssub (TE_mono (sndE S e ok hn w.2.2 h) fun v st1 h1 => TE_mono (sndE S a ok hn w.1 h1) fun x st2 h2 => sndE S i ok hn w.2.1 h2)
  | .exp e p, vs, fx, st, k, ok, hn, kd, w, h => by
    dsimp only [wpS] at h
    exact TS_exp ok (swaps_none e w.1) (sndE S e ok hn w.2 h)
  | .iff t a b p, vs, fx, st, k, ok, hn, kd, w, h => by
    dsimp only [wpS] at h
    exact TS_if (TB_mono (sndB S t ok hn w.1 h) fun z st1 h1 => ⟨fun hz => sndSs S a ok hn kd w.2.1 (h1.1 hz), fun hz => sndSs S b ok hn kd w.2.2 (h1.2 hz)⟩)
  | .whl t b p, vs, fx, st, k, ok, hn, kd, w, h => by
    dsimp only [wpS] at h
    obtain ⟨n, h⟩ := h
    exact TS_while (fun st k h => sndB S t ok hn w.1 h) (fun st k h => sndSs S b ok hn kd w.2 h) h
  | .for_ t it b p, vs, fx, st, k, ok, hn, kd, w, h => by
    dsimp only [wpS] at h
    exact TS_for ok hn.symm w.1 (fold_E it) (fun I st k h => sndSs S b (fx := fx.at I) ok.at hn kd w.2.2 h) (sndE S it ok hn w.2.1 h)
  | .forE t i ip p q b fp, vs, fx, st, k, ok, hn, kd, w, h => by
    dsimp only [wpS] at h
    split at h
    · rename_i e
      exact TS_forE ok hn.symm w.1 w.2 e h
    · exact h.elim
  | .ret e p, vs, fx, st, k, ok, hn, kd, w, h => by
    dsimp only [wpS] at h
    exact TS_ret (sndE S e ok hn w h)
  | .brk p, vs, fx, st, k, ok, hn, kd, w, h => TS_break h
  | .pas p, vs, fx, st, k, ok, hn, kd, w, h => TS_pass h
  | .raw s, vs, fx, st, k, ok, hn, kd, w, h => by dsimp only [wpS] at h
theorem sndSs {c : Cx} {r : Nat} {N : Nm} (S : Std c N) : ∀ (ss : MSs) {vs : Vis} {fx : Fx} {st : St} {k : KF}, FxOk c r fx vs → fx.nm = N.sl → Kinds N.sl vs fx.env → wfSs c N vs ss → wpSs c r ss st k → TS c fx (execs (toSs N ss) fx.env) st k
  | .nil, vs, fx, st, k, ok, hn, kd, w, h => TS_nil h
  | .cons s r', vs, fx, st, k, ok, hn, kd, w, h => by
    dsimp only [wpSs] at h
    refine TS_cons (TS_mono (sndS S s ok hn kd w.1 h) fun f st1 h1 => ?_)
    cases f with
    | next => exact sndSs S r' ok hn kd w.2 h1
    | _ => exact h1
end


/-- what stands of a def -/
structure DefOk (c : Cx) (N : Nm) (f : Addr) (fd : FuncData) (bd : MSs) (vs : Vis) (ps : List Nat) (nl dm : Nat) : Prop where
  fo : ∃ o, c.s0.heap.get? f = some o ∧ o.data = .func fd
  code : c.s0.heap.CodeRec fd.code fd.qualname
  co : fd.scope.isCoroutine = false
  gen : fd.scope.isGenerator = false
  body : fd.body = .stmts (toSs N bd)
  clos : fd.closure = []
  glo : fd.globals = mainGlobals
  bui : fd.builtins = builtinsNs
  kind : fd.scope.kind = .function
  slot : ∀ i ∈ vs.slots, (N.sl i == ("__debug__" : Str)) = false ∧ (N.sl i == ("__classdict__" : Str)) = false ∧ ((i ∉ vs.cells ∧ fd.scope.names.lookup (N.sl i) = some .local) ∨ (i ∈ vs.cells ∧ fd.scope.names.lookup (N.sl i) = some .cell))
  store : ∀ i ∈ vs.stores, i ∈ vs.slots
  globs : ∀ i ∈ vs.globs, ∃ x v, c.g i = some (x, v) ∧ fd.scope.names.lookup x = some .globalImplicit
  inj : ∀ i ∈ vs.slots, ∀ j ∈ vs.slots, i ≠ j → N.sl i ≠ N.sl j
  dum : dm ∉ vs.slots ∧ ∀ i ∈ vs.slots, N.sl i ≠ N.sl dm
  free : ∀ i ∈ vs.free, i ∉ vs.slots ∧ i ≠ dm
  pars : ps.Nodup ∧ ∀ i ∈ ps, i ∈ vs.slots ∧ i < nl
  wf : wfSs c N vs bd

/-- the slots at a def's entry -/
noncomputable def loc0 (nl : Nat) : List Nat → List V → List (Option V)
  | i :: is, x :: xs => (loc0 nl is xs).set i (some x)
  | _, _ => List.replicate nl none
theorem loc0_get {nl : Nat} : ∀ (is : List Nat) (xs : List V) {i : Nat} {v : V}, is.Nodup → (loc0 nl is xs)[i]? = some (some v) → ∃ j : Nat, is[j]? = some i ∧ xs[j]? = some v
  | [], _, i, v, _, h => by dsimp only [loc0] at h; simp [List.getElem?_replicate] at h
  | _ :: _, [], i, v, _, h => by dsimp only [loc0] at h; simp [List.getElem?_replicate] at h
  | a :: is, x :: xs, i, v, hn, h => by
    dsimp only [loc0] at h
    by_cases e : a = i
    · subst e
      rw [List.getElem?_set] at h
      simp only [if_true] at h
      split at h
      · cases h; exact ⟨0, rfl, rfl⟩
      · cases h
    · rw [List.getElem?_set_ne e] at h
      obtain ⟨j, h1, h2⟩ := loc0_get is xs (List.nodup_cons.mp hn).2 h
      exact ⟨j + 1, by simpa using h1, by simpa using h2⟩

theorem cells_have : ∀ (names : List (Str × NameKind)) (n : Nat) (acc : List (Str × Addr)) {x : Str}, ((x, NameKind.cell) ∈ names ∨ (acc.lookup x).isSome = true) → ((cellsFrom n names acc).lookup x).isSome = true
  | [], n, acc, x, h => by
    rcases h with h | h
    · simp at h
    · exact h
  | (name, kind) :: r, n, acc, x, h => by
    unfold cellsFrom
    split
    · rename_i hk
      refine cells_have r (n + 1) _ ?_
      rcases h with h | h
      · rcases List.mem_cons.mp h with h | h
        · cases h; right; simp
        · exact .inl h
      · right
        rw [List.lookup_cons]
        split
        · rfl
        · exact h
    · rename_i hk
      refine cells_have r n acc ?_
      rcases h with h | h
      · rcases List.mem_cons.mp h with h | h
        · cases h; exact absurd rfl hk
        · exact .inl h
      · exact .inr h

theorem bindL_get {kindOf : Str → Option NameKind} {x : Str} {v : Value} : ∀ (bs : List (Str × Value)) (m : Str → Option Value), (bs.map (·.1)).Nodup → kindOf x = some .local → ((x, v) ∈ bs ∨ (x ∉ bs.map (·.1) ∧ m x = some v)) → bindL kindOf bs m x = some v
  | [], m, _, _, h => by
    rcases h with h | h
    · simp at h
    · exact h.2
  | (n, u) :: r, m, hn, hk, h => by
    simp only [List.map_cons, List.nodup_cons] at hn
    unfold bindL
    refine bindL_get r _ hn.2 hk ?_
    rcases h with h | ⟨h1, h2⟩
    · rcases List.mem_cons.mp h with h | h
      · cases h
        exact .inr ⟨hn.1, by rw [if_pos hk]; simp⟩
      · exact .inl h
    · simp only [List.map_cons, List.mem_cons, not_or] at h1
      refine .inr ⟨h1.2, ?_⟩
      split
      · simp [h1.1, h2]
      · exact h2
theorem bindC_get {kindOf : Str → Option NameKind} {x : Str} {v : Value} : ∀ (bs : List (Str × Value)) (m : Str → Option Value), (bs.map (·.1)).Nodup → kindOf x ≠ some .local → ((x, v) ∈ bs ∨ (x ∉ bs.map (·.1) ∧ m x = some v)) → bindC kindOf bs m x = some v
  | [], m, _, _, h => by
    rcases h with h | h
    · simp at h
    · exact h.2
  | (n, u) :: r, m, hn, hk, h => by
    simp only [List.map_cons, List.nodup_cons] at hn
    unfold bindC
    refine bindC_get r _ hn.2 hk ?_
    rcases h with h | ⟨h1, h2⟩
    · rcases List.mem_cons.mp h with h | h
      · cases h
        exact .inr ⟨hn.1, by rw [if_neg hk]; simp⟩
      · exact .inl h
    · simp only [List.map_cons, List.mem_cons, not_or] at h1
      refine .inr ⟨h1.2, ?_⟩
      split
      · exact h2
      · simp [h1.1, h2]


/-- how a call's arguments meet a def's parameters -/
noncomputable def Binds (c : Cx) (N : Nm) (fd : FuncData) (ps : List Nat) (xs : List V) (kw : Option Bool) (ys : List V) : Prop :=
  ∀ A av ρ σ s Q E vals, Rel c av ρ σ s → VReps c.C ρ (Still s.heap (ρ.addrs ++ av)) xs vals →
    (∀ s₁ bs, Rel c av ρ σ s₁ → Grow s s₁ → VReps c.C ρ (Still s₁.heap (ρ.addrs ++ av)) ys bs → Q ((ps.map N.sl).zip bs) s₁) →
    wpAny (model c.prog c.w) A (bindArgs fd ⟨vals, kwV c kw⟩) Q E s

/-- the frame of a def -/
noncomputable def dfx (N : Nm) (fd : FuncData) (vs : Vis) (dm : Nat) (env : Env) (A : Around) (av : List Addr) : Fx :=
  { env := env, A := A, nm := N.sl,
    sto := fun i => if i ∈ vs.slots then (if i ∈ vs.cells then (env.cells.lookup (N.sl i)).map fun a => ⟨a, true⟩ else some ⟨env.locals, false⟩) else if i = dm then some ⟨env.locals, false⟩ else none,
    own := env.locals :: vs.cells.filterMap (fun i => env.cells.lookup (N.sl i)), av := av }

section
variable {c : Cx} {r : Nat} {N : Nm} {f : Addr} {fd : FuncData} {bd : MSs} {vs : Vis} {ps : List Nat} {nl dm : Nat}

theorem def_sto {env : Env} {A : Around} {av : List Addr} {i : Nat} {T : Sto} (h : (dfx N fd vs dm env A av).sto i = some T) :
    (T = ⟨env.locals, false⟩ ∧ ((i ∈ vs.slots ∧ i ∉ vs.cells) ∨ i = dm)) ∨ (i ∈ vs.slots ∧ i ∈ vs.cells ∧ ∃ a, env.cells.lookup (N.sl i) = some a ∧ T = ⟨a, true⟩) := by
  simp only [dfx] at h
  by_cases h1 : i ∈ vs.slots
  · rw [if_pos h1] at h
    by_cases h2 : i ∈ vs.cells
    · rw [if_pos h2] at h
      obtain ⟨a, e1, e2⟩ := Option.map_eq_some_iff.mp h
      exact .inr ⟨h1, h2, a, e1, e2.symm⟩
    · rw [if_neg h2] at h; cases h; exact .inl ⟨rfl, .inl ⟨h1, h2⟩⟩
  · rw [if_neg h1] at h
    by_cases h2 : i = dm
    · rw [if_pos h2] at h; cases h; exact .inl ⟨rfl, .inr h2⟩
    · rw [if_neg h2] at h; cases h

theorem def_fxOk (D : DefOk c N f fd bd vs ps nl dm) {A : Around} {av : List Addr} {L : Addr} {qual : Str} (hr : Room r A) (hap : (cellsFrom (L + 1) fd.scope.names []).Pairwise fun x y => x.2 ≠ y.2) (hab : ∀ n a, (n, a) ∈ cellsFrom (L + 1) fd.scope.names [] → L < a) :
    FxOk c r (dfx N fd vs dm (newEnv fd.scope L fd.globals (cellsFrom (L + 1) fd.scope.names []) qual (some f) fd.code none fd.builtins) A av) vs where
  kind := D.kind
  globals := D.glo
  builtins := D.bui
  slot := fun i hi => by
    obtain ⟨h1, h2, h3⟩ := D.slot i hi
    refine ⟨h1, h2, ?_⟩
    rcases h3 with ⟨h3, h4⟩ | ⟨h3, h4⟩
    · exact .inl ⟨h3, h4, by simp only [dfx]; rw [if_pos hi, if_neg h3]⟩
    · obtain ⟨a, ha⟩ := Option.isSome_iff_exists.mp (cells_have fd.scope.names (L + 1) [] (.inl (lookup_mem h4)))
      exact .inr ⟨h3, .inl h4, a, ha, by simp only [dfx]; rw [if_pos hi, if_pos h3]; show Option.map _ ((cellsFrom (L + 1) fd.scope.names []).lookup (N.sl i)) = _; rw [ha]; rfl⟩
  store := fun i hi => ⟨D.store i hi, fun h => by
    have h' : fd.scope.names.lookup (N.sl i) = some .free := h
    rcases (D.slot i (D.store i hi)).2.2 with ⟨_, h4⟩ | ⟨_, h4⟩ <;> rw [h4] at h' <;> cases h'⟩
  glob := fun i hi => D.globs i hi
  inj := fun i j S T hij h1 h2 he => by
    rcases def_sto h1 with ⟨rfl, h3⟩ | ⟨h3, h4, a, h5, rfl⟩ <;> rcases def_sto h2 with ⟨rfl, h6⟩ | ⟨h6, h7, b, h8, rfl⟩
    · refine ⟨rfl, rfl, ?_⟩
      show N.sl i ≠ N.sl j
      rcases h3 with ⟨h3, _⟩ | rfl <;> rcases h6 with ⟨h6, _⟩ | rfl
      · exact D.inj i h3 j h6 hij
      · exact D.dum.2 i h3
      · exact (D.dum.2 j h6).symm
      · exact absurd rfl hij
    · have : L < b := hab _ _ (lookup_mem h8)
      exact absurd he (Nat.ne_of_lt this)
    · have : L < a := hab _ _ (lookup_mem h5)
      exact absurd he.symm (Nat.ne_of_lt this)
    · have he' : a = b := he
      subst he'
      exact absurd (name_of_addr hap (lookup_mem h5) (lookup_mem h8)) (D.inj i h3 j h6 hij)
  room := hr
  free := fun i hi => by
    obtain ⟨h1, h2⟩ := D.free i hi
    simp only [dfx]; rw [if_neg h1, if_neg h2]
  loc := ⟨dm, (if_neg D.dum.1).trans (if_pos rfl)⟩

/-- the state at a def's entry -/
theorem def_enter (D : DefOk c N f fd bd vs ps nl dm) {A : Around} {av : List Addr} {ρ : Rho} {σ : List MObj} {s s₁ : Shared} {ys : List V} {bs : List Value} {L : Addr} {qual : Str} (R : Rel c av ρ σ s) (hv : VReps c.C ρ (Still s.heap (ρ.addrs ++ av)) ys bs) (hlen : ps.length = ys.length)
    (hL : L = s.heap.objs.size) (x : InCallC s L (bindL (newEnv fd.scope L fd.globals (cellsFrom (L + 1) fd.scope.names []) qual (some f) fd.code none fd.builtins).kindOf ((ps.map N.sl).zip bs) fun _ => none)
      (cellsFrom (L + 1) fd.scope.names []) (bindC (newEnv fd.scope L fd.globals (cellsFrom (L + 1) fd.scope.names []) qual (some f) fd.code none fd.builtins).kindOf ((ps.map N.sl).zip bs) fun _ => none) s₁) (ht : s.toks ≤ s₁.toks) :
    RelF c (dfx N fd vs dm (newEnv fd.scope L fd.globals (cellsFrom (L + 1) fd.scope.names []) qual (some f) fd.code none fd.builtins) A av) ρ ⟨σ, loc0 nl ps ys⟩ s₁ ∧
    (∀ a ∈ L :: vs.cells.filterMap (fun i => (cellsFrom (L + 1) fd.scope.names []).lookup (N.sl i)), s.heap.get? a = none) := by
  obtain ⟨h', tk, e⟩ := x.toInCall.same
  have keep := x.toInCall.keep
  have none_of : ∀ a, L ≤ a → s.heap.get? a = none := fun a ha => Heap.get?_none_of_le (hL ▸ ha)
  have fr : ∀ a ∈ L :: vs.cells.filterMap (fun i => (cellsFrom (L + 1) fd.scope.names []).lookup (N.sl i)), s.heap.get? a = none := fun a ha => by
    rcases List.mem_cons.mp ha with rfl | ha
    · exact none_of _ (Nat.le_refl _)
    · obtain ⟨y, hy, e⟩ := List.mem_filterMap.mp ha
      exact none_of _ (Nat.le_of_lt (x.above _ _ (lookup_mem e)))
  refine ⟨?_, fr⟩
  have g : Grow s s₁ := ⟨keep, by rw [e], by rw [e], ht⟩
  have R1 := R.grow g
  have alive : ∀ a, a ∈ ρ.addrs ∨ a ∈ av → s.heap.get? a ≠ none := fun a ha => by
    rcases ha with ha | ha
    · obtain ⟨i, p, e, hh⟩ := Rho.mem_addrs.mp ha
      have hi : i < σ.length := by rw [← R.len]; exact (List.getElem?_eq_some_iff.mp e).1
      have := R.objs i p σ[i] e (List.getElem?_eq_getElem hi)
      cases hσ : σ[i] with
      | lst ds =>
        rw [hσ] at this; obtain ⟨e1, vs, n, a, b⟩ := this
        rcases hh with rfl | rfl
        · rw [a]; simp
        · rw [← e1, a]; simp
      | inst K ns xs =>
        rw [hσ] at this; obtain ⟨_, _, e1, es, n, vs, a, b, _⟩ := this
        rcases hh with rfl | rfl
        · rw [a]; simp
        · rw [b]; simp
    · obtain ⟨o, e⟩ := R.avs a ha; rw [e]; simp
  have apart : ∀ a ∈ L :: vs.cells.filterMap (fun i => (cellsFrom (L + 1) fd.scope.names []).lookup (N.sl i)), a ∉ ρ.addrs ∧ a ∉ av := fun a ha => ⟨fun h => alive a (.inl h) (fr a ha), fun h => alive a (.inr h) (fr a ha)⟩
  have still : ∀ a o, Still s.heap (ρ.addrs ++ av) a o → Still s₁.heap (ρ.addrs ++ ((L :: vs.cells.filterMap (fun i => (cellsFrom (L + 1) fd.scope.names []).lookup (N.sl i))) ++ av)) a o := fun a o y => by
    have hy := y.2
    simp only [List.mem_append, not_or] at hy
    refine ⟨keep a o y.1, ?_⟩
    simp only [List.mem_append, not_or]
    exact ⟨hy.1, fun h => (by have := fr a h; rw [y.1] at this; cases this), hy.2⟩
  have cellAlive : ∀ n a, (cellsFrom (L + 1) fd.scope.names []).lookup n = some a → ∃ o v, s₁.heap.get? a = some o ∧ o.data = .cell v := fun n a h => let ⟨o, h1, h2⟩ := x.cell n a h; ⟨o, _, h1, h2⟩
  have nd : (((ps.map N.sl).zip bs).map (·.1)).Nodup := by
    rw [List.map_fst_zip (by rw [List.length_map, hlen, hv.length]; exact Nat.le_refl _)]
    exact List.pairwise_map.mpr (D.pars.1.imp_of_mem fun {a b} ha hb hab => D.inj a (D.pars.2 a ha).1 b (D.pars.2 b hb).1 hab)
  refine { rel := { base := R1.base, os := R1.os, gens := R1.gens, toks := R1.toks, len := R1.len, objs := ?_, apart := R1.apart, off := ?_, fresh := ?_, avs := ?_ }, ns := ⟨_, x.toInCall.ns⟩, lown := List.mem_cons_self .., slots := ?_, stos := ?_, alive := ?_, nss := ?_ }
  · exact fun i p m e f => (R.objs i p m e f).mono (fun _ _ e => e) still (fun o => keep _ o) (fun o => keep _ o)
  · intro a ha hb
    rcases List.mem_append.mp hb with hb | hb
    · exact (apart a hb).1 ha
    · exact R.off a ha hb
  · intro a ha
    rcases ha with ha | ha
    · exact R.fresh a (.inl ha)
    · rcases List.mem_append.mp ha with ha | ha
      · cases q : c.s0.heap.get? a with
        | none => rfl
        | some o => have := R.base a o q; rw [fr a ha] at this; cases this
      · exact R.fresh a (.inr ha)
  · intro a ha
    rcases List.mem_append.mp ha with ha | ha
    · rcases List.mem_cons.mp ha with rfl | ha
      · exact Ns.alive x.toInCall.ns
      · obtain ⟨y, hy, e⟩ := List.mem_filterMap.mp ha
        obtain ⟨o, v, h1, _⟩ := cellAlive _ _ e
        exact ⟨o, h1⟩
    · exact R1.avs a ha
  · intro i v hv'
    obtain ⟨j, h1, h2⟩ := loc0_get ps ys D.pars.1 hv'
    obtain ⟨val, h3, h4⟩ := hv.get h2
    have hi : i ∈ ps := List.mem_of_getElem? h1
    have hz : (N.sl i, val) ∈ (ps.map N.sl).zip bs := by
      refine List.mem_of_getElem? (i := j) ?_
      rw [List.getElem?_zip_eq_some]
      exact ⟨by rw [List.getElem?_map, h1]; rfl, h3⟩
    have his := (D.pars.2 i hi).1
    have h4' := h4.mono (ρ' := ρ) (fun _ _ e => e) still
    rcases (D.slot i his).2.2 with ⟨hc, hk⟩ | ⟨hc, hk⟩
    · exact ⟨⟨L, false⟩, val, (if_pos his).trans (if_neg hc), ⟨_, x.toInCall.ns, bindL_get _ _ nd hk (.inl hz)⟩, h4'⟩
    · obtain ⟨a, ha⟩ := Option.isSome_iff_exists.mp (cells_have fd.scope.names (L + 1) [] (.inl (lookup_mem hk)))
      obtain ⟨o, ho, hd⟩ := x.cell _ _ ha
      refine ⟨⟨a, true⟩, val, (if_pos his).trans ((if_pos hc).trans ?_), ⟨o, ho, ?_⟩, h4'⟩
      · show Option.map _ ((cellsFrom (L + 1) fd.scope.names []).lookup (N.sl i)) = _; rw [ha]; rfl
      · rw [hd, bindC_get _ _ nd (by show fd.scope.names.lookup (N.sl i) ≠ _; rw [hk]; simp) (.inl hz)]
  · intro i T h
    rcases def_sto h with ⟨rfl, _⟩ | ⟨_, hc, a, ha, rfl⟩
    · exact List.mem_cons_self ..
    · exact List.mem_cons_of_mem _ (List.mem_filterMap.mpr ⟨i, hc, ha⟩)
  · intro i T h hc
    rcases def_sto h with ⟨rfl, _⟩ | ⟨_, _, a, ha, rfl⟩
    · cases hc
    · exact cellAlive _ _ ha
  · intro i T h hc
    rcases def_sto h with ⟨rfl, _⟩ | ⟨_, _, a, ha, rfl⟩
    · exact ⟨_, x.toInCall.ns⟩
    · cases hc
end


section
variable {c : Cx} {r : Nat} {N : Nm} {f : Addr} {fd : FuncData} {bd : MSs} {vs : Vis} {ps : List Nat} {nl dm : Nat}

/-- what comes back from a body -/
noncomputable def retK (k : V → List MObj → Prop) : KF := fun f st => match f with
  | .ret v => k v st.σ
  | .next => k (.d .none) st.σ
  | _ => False

/-- a contract, said of the code itself -/
noncomputable def TCc (c : Cx) (r : Nat) (f : Addr) (xs : List V) (kw : Option Bool) (σ : List MObj) (k : V → List MObj → Prop) : Prop :=
  ∀ A av ρ s R vals, Room r A → Rel c av ρ σ s → VReps c.C ρ (Still s.heap (ρ.addrs ++ av)) xs vals →
    (∀ v σ' ρ' val s', Rel c av ρ' σ' s' → Nxt [] ρ s ρ' s' → VRep c.C ρ' (Still s'.heap (ρ'.addrs ++ av)) v val → k v σ' → R (.ok (.ret val)) s') →
    codeAny (model c.prog c.w) A (.call (.ref f) ⟨vals, kwV c kw⟩) R s
theorem TCc.tc {xs : List V} {kw : Option Bool} {σ : List MObj} {k : V → List MObj → Prop} (h : TCc c r f xs kw σ k) : TC c r f xs kw σ k :=
  fun A av ρ s Q E vals hr R hv q => wpAny_call (h A av ρ s _ vals hr R hv fun v σ' ρ' val s' a b d e => q v σ' ρ' val s' a b d e)
/-- a def's contract, from its body -/
theorem TC_def (S : Std c N) (D : DefOk c N f fd bd vs ps nl dm) {xs ys : List V} {kw : Option Bool} {σ : List MObj} {k : V → List MObj → Prop} (hb : Binds c N fd ps xs kw ys) (hlen : ps.length = ys.length)
    (hk : ∀ i ∈ vs.stores, i ∈ vs.slots) (h : wpSs c r bd ⟨σ, loc0 nl ps ys⟩ (retK k)) : TCc c (r + 1) f xs kw σ k := by
  intro A av ρ s Q vals hr R hv q
  obtain ⟨o, ho, hd⟩ := D.fo
  refine codeAny_call_function (by have := hr.depth; omega) (R.base _ _ ho) hd D.co D.gen D.body (D.code.keeps R.base) ?_
  refine hb A.in1 av ρ σ s _ _ vals R hv fun s₁ bs R1 g1 hv1 => ?_
  rw [D.clos]
  refine withT (wpAny_newFunctionEnv_cells D.kind (fun y hy => ?_) fun env he s₂ x ht => ?_)
  · have hn : y.1 ∈ ps.map N.sl := by
      have := List.of_mem_zip (show (y.1, y.2) ∈ (ps.map N.sl).zip bs from hy)
      exact this.1
    obtain ⟨i, hi, e⟩ := List.mem_map.mp hn
    rw [← e]
    rcases (D.slot i (D.pars.2 i hi).1).2.2 with ⟨_, h4⟩ | ⟨_, h4⟩
    · exact .inl h4
    · exact .inr ⟨h4, cells_have _ _ [] (.inl (lookup_mem h4))⟩
  · subst he
    obtain ⟨R2, fr⟩ := def_enter (A := A.deeper (newEnv fd.scope s₁.heap.objs.size fd.globals (cellsFrom (s₁.heap.objs.size + 1) fd.scope.names []) (fd.qualname ++ ".<locals>.") (some f) fd.code none fd.builtins)) D R1 hv1 hlen rfl x ht
    refine ⟨(S.ok.nolimit.keeps R1.base).keeps x.toInCall.keep, codeAny_func ?_⟩
    have ok := def_fxOk (r := r) (av := av) (L := s₁.heap.objs.size) (qual := fd.qualname ++ ".<locals>.") (A := A.deeper (newEnv fd.scope s₁.heap.objs.size fd.globals (cellsFrom (s₁.heap.objs.size + 1) fd.scope.names []) (fd.qualname ++ ".<locals>.") (some f) fd.code none fd.builtins)) D
      ⟨hr.handled, by show A.depth + 1 + r < _; have := hr.depth; omega, by show A.units + 3 + 20 * r + 200 < _; have := hr.units; omega⟩ x.apart x.above
    have kd : Kinds N.sl vs (newEnv fd.scope s₁.heap.objs.size fd.globals (cellsFrom (s₁.heap.objs.size + 1) fd.scope.names []) (fd.qualname ++ ".<locals>.") (some f) fd.code none fd.builtins) := by
      refine ⟨by show (if fd.scope.kind.isAnnotationScope = true then _ else fd.scope.kind) = _; rw [D.kind]; rfl, fun i hi => ?_⟩
      show (fd.scope.names.lookup (N.sl i) == some NameKind.local) = _
      rcases (D.slot i (hk i hi)).2.2 with ⟨h3, h4⟩ | ⟨h3, h4⟩
      · rw [h4]; simp [h3]
      · rw [h4]; simp [h3]
    refine sndSs S bd ok rfl kd D.wf h ρ s₂ _ _ R2 fun fl st' ρ' fv s' R' N' f' hk' => ?_
    have g12 : Grow s₁ s₂ := by
      obtain ⟨hh, tk, e⟩ := x.toInCall.same
      exact ⟨x.toInCall.keep, by rw [e], by rw [e], ht⟩
    have Nf : Nxt [] ρ s ρ' s' := (g1.nxt (own := [])).trans ((((g12.nxt (own := _)).trans N').less (own' := []) fun a ha => .inr (fr a ha)))
    have still : ∀ a o, Still s'.heap ((dfx N fd vs dm (newEnv fd.scope s₁.heap.objs.size fd.globals (cellsFrom (s₁.heap.objs.size + 1) fd.scope.names []) (fd.qualname ++ ".<locals>.") (some f) fd.code none fd.builtins) (A.deeper (newEnv fd.scope s₁.heap.objs.size fd.globals (cellsFrom (s₁.heap.objs.size + 1) fd.scope.names []) (fd.qualname ++ ".<locals>.") (some f) fd.code none fd.builtins)) av).mv ρ') a o → Still s'.heap (ρ'.addrs ++ av) a o := fun a o y => ⟨y.1, fun hm => y.2 (by
      rcases List.mem_append.mp hm with hm | hm
      · exact List.mem_append_left _ hm
      · exact List.mem_append_right _ (List.mem_append_right _ hm))⟩
    have Rf : Rel c av ρ' st'.σ s' :=
      { base := R'.rel.base, os := R'.rel.os, gens := R'.rel.gens, toks := R'.rel.toks, len := R'.rel.len
        objs := fun i p m e f => (R'.rel.objs i p m e f).mono (fun _ _ e => e) still (fun _ e => e) (fun _ e => e)
        apart := R'.rel.apart
        off := fun a ha hb => R'.rel.off a ha (List.mem_append_right _ hb)
        fresh := fun a ha => R'.rel.fresh a (ha.imp _root_.id (List.mem_append_right _))
        avs := fun a ha => R'.rel.avs a (List.mem_append_right _ ha) }
    cases fl with
    | next => cases f'; exact q _ _ ρ' _ s' Rf Nf .none hk'
    | ret v => obtain ⟨val, rfl, rv⟩ := f'; exact q _ _ ρ' _ s' Rf Nf (rv.mono (fun _ _ e => e) still) hk'
    | brk => exact hk'.elim
    | cont => exact hk'.elim
end


section
variable {c : Cx} {r : Nat} {N : Nm} {f : Addr} {fd : FuncData} {ps : List Nat}

theorem Binds.plain {xs : List V} (hl : xs.length = ps.length) (h : ∀ vals : List Value, vals.length = ps.length → bindArgs fd ⟨vals, []⟩ = pure ((ps.map N.sl).zip vals)) : Binds c N fd ps xs none xs := by
  intro A av ρ σ s Q E vals R hv q
  show wpAny _ _ (bindArgs fd ⟨vals, []⟩) _ _ _
  rw [h vals (hv.length.trans hl)]
  exact wpAny_pure (q s vals R .refl hv)
theorem Binds.kwo {xs : List V} {b : Bool} (hl : xs.length + 1 = ps.length) (h : ∀ vals : List Value, vals.length + 1 = ps.length → bindArgs fd ⟨vals, [(c.kwn, .bool b)]⟩ = pure ((ps.map N.sl).zip (vals ++ [.bool b]))) : Binds c N fd ps xs (some b) (xs ++ [.d (.bool b)]) := by
  intro A av ρ σ s Q E vals R hv q
  show wpAny _ _ (bindArgs fd ⟨vals, [(c.kwn, .bool b)]⟩) _ _ _
  rw [h vals (by rw [hv.length]; exact hl)]
  exact wpAny_pure (q s (vals ++ [.bool b]) R .refl (hv.append (.cons .bool .nil)))
theorem Binds.dflt {xs : List V} {T : Addr} {o : Obj} {n : Nat} {k : Option (Array Value) → Sem (List (Str × Value))} (O : Ok c) (hl : xs.length + 1 = ps.length) (hd : fd.defaults = .ref T) (ho : c.s0.heap.get? T = some o) (hs : o.data = .seq #[Value.none] n)
    (h₁ : ∀ vals : List Value, vals.length + 1 = ps.length → ∃ k, bindArgs fd ⟨vals, []⟩ = seqItems? fd.defaults >>= k ∧ k (some #[.none]) = pure ((ps.map N.sl).zip (vals ++ [.none]))) : Binds c N fd ps xs none (xs ++ [.d .none]) := by
  intro A av ρ σ s Q E vals R hv q
  show wpAny _ _ (bindArgs fd ⟨vals, []⟩) _ _ _
  obtain ⟨k, e1, e2⟩ := h₁ vals (by rw [hv.length]; exact hl)
  rw [e1, hd]
  exact wpAny_bind (wpAny_seqItems (R.base _ _ ho) hs (e2 ▸ wpAny_pure (q s (vals ++ [.none]) R .refl (hv.append (.cons .none .nil)))))
theorem modules_ne {h : Heap} (x : h.NoLimit) : (h.objs.size == sysModules) = false := beq_false_of_ne (Nat.ne_of_gt (modules_low x))
theorem Binds.kws {xs : List V} (O : Ok c) (hl : xs.length + 1 = ps.length)
    (h₁ : ∀ vals : List Value, vals.length + 1 = ps.length → bindArgs fd ⟨vals, []⟩ = (alloc { cls := .type "dict", data := .dict #[] } >>= fun d => pure ((ps.map N.sl).zip (vals ++ [.ref d])))) : Binds c N fd ps xs none (xs ++ [.d .emp]) := by
  intro A av ρ σ s Q E vals R hv q
  show wpAny _ _ (bindArgs fd ⟨vals, []⟩) _ _ _
  rw [h₁ vals (by rw [hv.length]; exact hl)]
  have g : Grow s { s with heap := s.heap.push { cls := .type "dict", data := .dict #[] } } := .push
  have hn : s.heap.get? s.heap.objs.size = none := Heap.get?_none_of_le (Nat.le_refl _)
  refine wpAny_bind (wpAny_alloc (wpAny_pure (q _ _ (R.grow g) g ((hv.mono (fun _ _ e => e) fun a o x => ⟨g.keep a o x.1, x.2⟩).append (.cons ?_ .nil)))))
  refine ⟨s.heap.objs.size, 0, rfl, modules_ne (O.nolimit.keeps R.base), ?_, ?_⟩
  · exact Heap.get?_push_size _ rfl
  · intro hm
    rcases List.mem_append.mp hm with hm | hm
    · obtain ⟨i, p, e, hh⟩ := Rho.mem_addrs.mp hm
      have hi : i < σ.length := by rw [← R.len]; exact (List.getElem?_eq_some_iff.mp e).1
      have := R.objs i p σ[i] e (List.getElem?_eq_getElem hi)
      cases hσ : σ[i] with
      | lst ds =>
        rw [hσ] at this; obtain ⟨e1, vs, n, a, b⟩ := this
        rcases hh with hh | hh
        · rw [hh, a] at hn; cases hn
        · rw [hh, ← e1, a] at hn; cases hn
      | inst K ns xs =>
        rw [hσ] at this; obtain ⟨_, _, e1, es, n, vs, a, b, _⟩ := this
        rcases hh with hh | hh
        · rw [hh, a] at hn; cases hn
        · rw [hh, b] at hn; cases hn
    · obtain ⟨o, e⟩ := R.avs _ hm
      rw [e] at hn; cases hn
end

section
variable {c : Cx} {r : Nat}

/-- an instance is made, and its __init__ run -/
theorem TC_new (O : Ok c) {C fI : Addr} {xs : List V} {σ : List MObj} {k : V → List MObj → Prop} (hC : C ∈ c.cls) (hm : makesIn c.K C = true) (hi : findIn c.K (.ref C) "__init__" = some (some (.ref fI))) (hf : isFn c.K (.ref fI) = true)
    (h : TCc c r fI (.inst σ.length :: xs) none (σ ++ [.inst C [] []]) fun v σ' => v = .d .none ∧ k (.inst σ.length) σ') : TCc c (r + 1) C xs none σ k := by
  intro A av ρ s R vals hr R0 hv q
  have X : c.K.In s.heap := O.In.keeps R0.base
  obtain ⟨hh, g, d, t, os⟩ := s
  refine make_core (makes_of X hm) (looks_findIn X hi) (fun self => bind_fn X self (by simpa [isFn] using hf)) (.inl rfl) ?_
  have gr : Grow ⟨hh, g, d, t, os⟩ ⟨(hh.push emptyDict).push (instObj C hh.objs.size), g, d, t, os⟩ := ⟨fun b o e => Heap.get?_push_of_some _ (Heap.get?_push_of_some _ e), rfl, rfl, Nat.le_refl _⟩
  have n1 : hh.get? (hh.objs.size + 1) = none := Heap.get?_none_of_le (Nat.le_succ _)
  have n2 : hh.get? hh.objs.size = none := Heap.get?_none_of_le (Nat.le_refl _)
  have R1 : Rel c av (ρ ++ [(hh.objs.size + 1, hh.objs.size)]) (σ ++ [.inst C [] []]) ⟨(hh.push emptyDict).push (instObj C hh.objs.size), g, d, t, os⟩ := R0.track gr n1 n2
    ⟨hC, fun _ h => by simp at h, by simp, [], 0, [], by heap_get, by heap_get, ⟨rfl, rfl⟩, by simp, rfl⟩
  have N1 : Nxt [] ρ ⟨hh, g, d, t, os⟩ (ρ ++ [(hh.objs.size + 1, hh.objs.size)]) ⟨(hh.push emptyDict).push (instObj C hh.objs.size), g, d, t, os⟩ := gr.nxt_track n1 n2
  have hp : (ρ ++ [(hh.objs.size + 1, hh.objs.size)])[σ.length]? = some (hh.objs.size + 1, hh.objs.size) := by rw [← R0.len]; simp
  refine h _ av _ _ _ (.ref (hh.objs.size + 1) :: vals) ⟨hr.handled, ?_, ?_⟩ R1 (.cons ⟨_, hp, rfl⟩ ((hv.nxt (own := []) N1))) fun v σ' ρ' val s' R' N' rv hk => ?_
  · show A.depth + 1 + r < _; have := hr.depth; omega
  · show A.units + 1 + 20 * r + 200 < _; have := hr.units; omega
  · obtain ⟨rfl, hk⟩ := hk
    cases rv
    exact ⟨rfl, q (.inst σ.length) σ' ρ' _ s' R' (N1.trans N') ⟨_, N'.pre _ _ hp, rfl⟩ hk⟩
end


noncomputable def V.lt (n : Nat) : V → Prop
  | .lst i => i < n
  | .inst i => i < n
  | _ => True
/-- the tracked objects know each other alone -/
noncomputable def Shut (σ : List MObj) : Prop := ∀ m ∈ σ, match m with
  | .inst _ _ vs => ∀ v ∈ vs, v.lt σ.length
  | _ => True

theorem VRep.cut {C : Addr} {ρ : Rho} {P P' : ObjAt} {n : Nat} (h : ∀ a o, P a o → P' a o) {x : V} {v : Value} (hx : x.lt n) (r : VRep C ρ P x v) : VRep C (ρ.take n) P' x v := by
  cases x with
  | lst i => obtain ⟨p, a, b⟩ := r; exact ⟨p, by rw [List.getElem?_take_of_lt hx]; exact a, b⟩
  | inst i => obtain ⟨p, a, b⟩ := r; exact ⟨p, by rw [List.getElem?_take_of_lt hx]; exact a, b⟩
  | d x => exact Rep.mono h r
  | stat a => exact r
  | ty a => exact r
  | pat a b => exact r
theorem VReps.cut {C : Addr} {ρ : Rho} {P P' : ObjAt} {n : Nat} (h : ∀ a o, P a o → P' a o) : ∀ {xs : List V} {vs : List Value}, (∀ x ∈ xs, x.lt n) → VReps C ρ P xs vs → VReps C (ρ.take n) P' xs vs
  | [], _, _, e => e
  | x :: xs, _, hx, ⟨v, r, e, a, b⟩ => ⟨v, r, e, VRep.cut h (hx x (List.mem_cons_self ..)) a, VReps.cut h (fun y hy => hx y (List.mem_cons_of_mem _ hy)) b⟩

theorem Rho.take_addrs {ρ : Rho} {n : Nat} {a : Addr} (h : a ∈ Rho.addrs (ρ.take n)) : a ∈ ρ.addrs := by
  obtain ⟨i, p, e, hh⟩ := Rho.mem_addrs.mp h
  refine Rho.mem_addrs.mpr ⟨i, p, ?_, hh⟩
  by_cases hi : i < n
  · rwa [List.getElem?_take_of_lt hi] at e
  · rw [List.getElem?_take_eq_none (by omega)] at e; cases e
theorem take_get {α : Type} {l : List α} {n i : Nat} {x : α} (e : (l.take n)[i]? = some x) : l[i]? = some x ∧ i < n := by
  by_cases hi : i < n
  · rw [List.getElem?_take_of_lt hi] at e; exact ⟨e, hi⟩
  · rw [List.getElem?_take_eq_none (by omega)] at e; cases e

section
variable {c : Cx} {av : List Addr} {ρ : Rho} {σ : List MObj} {s : Shared} {n : Nat}
theorem still_take : ∀ a o, Still s.heap (ρ.addrs ++ av) a o → Still s.heap (Rho.addrs (ρ.take n) ++ av) a o := fun a o x => ⟨x.1, fun h => x.2 (by
  rcases List.mem_append.mp h with h | h
  · exact List.mem_append_left _ (Rho.take_addrs h)
  · exact List.mem_append_right _ h)⟩
/-- the objects made last are let go -/
theorem Rel.cut (R : Rel c av ρ σ s) (hn : n ≤ σ.length) (hS : Shut (σ.take n)) : Rel c av (ρ.take n) (σ.take n) s where
  base := R.base
  os := R.os
  gens := R.gens
  toks := R.toks
  len := by rw [List.length_take, List.length_take, R.len]
  objs := fun i p m e f => by
    obtain ⟨e', hi⟩ := take_get e
    obtain ⟨f', _⟩ := take_get f
    have := R.objs i p m e' f'
    cases m with
    | lst ds => obtain ⟨h1, vs, k, h2, h3⟩ := this; exact ⟨h1, vs, k, h2, h3.mono still_take⟩
    | inst K ns xs =>
      obtain ⟨hK, h6, h1, es, k, vs, h2, h3, h4, h5, h7⟩ := this
      have hs := hS _ (List.mem_of_getElem? f)
      exact ⟨hK, h6, h1, es, k, vs, h2, h3, h4, h5, h7.cut still_take fun x hx => by have := hs x hx; rwa [List.length_take, Nat.min_eq_left hn] at this⟩
  apart := fun i j p q e f hij => R.apart i j p q (take_get e).1 (take_get f).1 hij
  off := fun a ha => R.off a (Rho.take_addrs ha)
  fresh := fun a ha => R.fresh a (ha.imp Rho.take_addrs _root_.id)
  avs := R.avs
end

theorem Nxt.cut {own : List Addr} {ρ ρ' : Rho} {s s' : Shared} (N : Nxt own ρ s ρ' s') : Nxt own ρ s (ρ'.take ρ.length) s' ∧ ρ'.take ρ.length = ρ := by
  have e : ρ'.take ρ.length = ρ := by
    refine List.ext_getElem? fun i => ?_
    by_cases hi : i < ρ.length
    · rw [List.getElem?_take_of_lt hi, List.getElem?_eq_getElem hi]; exact N.pre i _ (List.getElem?_eq_getElem hi)
    · rw [List.getElem?_take_eq_none (by omega), List.getElem?_eq_none (by omega)]
  refine ⟨?_, e⟩
  rw [e]
  exact ⟨N.keep, N.alive, fun _ _ e => e, fun a h n => (n h).elim⟩

section
variable {c : Cx} {r : Nat} {f : Addr} {xs : List V} {kw : Option Bool} {σ : List MObj} {k : V → List MObj → Prop}

/-- what a call has made for itself alone is let go -/
theorem TC_drop (hS : Shut σ) (h : TCc c r f xs kw σ fun v σ' => ∃ d τ, v = .d d ∧ σ' = σ ++ τ ∧ k (.d d) σ) : TCc c r f xs kw σ k := by
  intro A av ρ s R vals hr R0 hv q
  refine h A av ρ s R vals hr R0 hv fun v σ' ρ' val s' R' N' rv hk => ?_
  obtain ⟨d, τ, rfl, rfl, hk⟩ := hk
  obtain ⟨N2, e⟩ := N'.cut
  have e2 : (σ ++ τ).take ρ.length = σ := by rw [R0.len, List.take_left]
  have R2 := R'.cut (n := ρ.length) (by rw [List.length_append, R0.len]; omega) (by rw [e2]; exact hS)
  rw [e2] at R2
  exact q (.d d) σ _ val s' R2 N2 (Rep.mono still_take rv) hk

theorem toD_map : ∀ (ds : List D) {C : Addr} {ρ : Rho} {P : ObjAt} {vs : List Value}, VReps C ρ P (ds.map .d) vs → Reps C P ds vs
  | [], _, _, _, _, e => e
  | d :: ds, _, _, _, _, ⟨v, r, e, a, b⟩ => ⟨v, r, e, a, toD_map ds b⟩

/-- a Whitespace that nobody changes any more -/
theorem TC_ws (O : Ok c) (hS : Shut σ) (h : TCc c r f xs kw σ fun v σ' => ∃ ds τ, v = .inst σ.length ∧ σ' = σ ++ .inst c.C [0, 1, 2, 3, 4] (ds.map .d) :: τ ∧ k (.d (.ws ds)) σ) : TCc c r f xs kw σ k := by
  intro A av ρ s R vals hr R0 hv q
  refine h A av ρ s R vals hr R0 hv fun v σ' ρ' val s' R' N' rv hk => ?_
  obtain ⟨ds, τ, rfl, rfl, hk⟩ := hk
  obtain ⟨N2, e⟩ := N'.cut
  have e2 : (σ ++ MObj.inst c.C [0, 1, 2, 3, 4] (ds.map .d) :: τ).take ρ.length = σ := by rw [R0.len, List.take_left]
  have R2 := R'.cut (n := ρ.length) (by rw [List.length_append, R0.len]; omega) (by rw [e2]; exact hS)
  rw [e2] at R2
  refine q (.d (.ws ds)) σ _ val s' R2 N2 ?_ hk
  obtain ⟨p, hp, rfl⟩ := rv
  have := R'.objs σ.length p _ hp (by rw [List.getElem?_append_right (Nat.le_refl _), Nat.sub_self]; rfl)
  obtain ⟨hK, h6, h1, es, m, vs, h2, h3, h4, h5, h7⟩ := this
  have off : ∀ a, (a = p.1 ∨ a = p.2) → a ∉ Rho.addrs (ρ'.take ρ.length) ++ av := fun a ha hm => by
    rcases List.mem_append.mp hm with hm | hm
    · obtain ⟨i, u, hu, hh⟩ := Rho.mem_addrs.mp hm
      obtain ⟨hu', hi⟩ := take_get hu
      have := R'.apart i σ.length u p hu' hp (by rw [R0.len] at hi; omega)
      rcases ha with rfl | rfl <;> rcases hh with hh | hh
      · exact this.1 hh.symm
      · exact this.2.2.1 hh.symm
      · exact this.2.1 hh.symm
      · exact this.2.2.2 hh.symm
    · refine R'.off a (Rho.mem_addrs.mpr ⟨_, p, hp, ha⟩) hm
  refine ⟨p.1, p.2, es, m, vs, rfl, ⟨h2, off _ (.inl rfl)⟩, ⟨h3, off _ (.inr rfl)⟩, ?_, (toD_map ds h7).mono still_take⟩
  rw [O.ws]; exact h4
end


noncomputable def kC (c : Cx) (nm : Nat → Str) (vs : Vis) (own : List Nat) (inner : Vis) (sc : Scope) : Bool :=
  sc.kind == .function && sc.names.all (fun x => x.2 != .cell) && sc.names.all (fun x => x.2 != .local || sc.names.lookup x.1 == some .local) &&
  sc.names.all (fun x => x.2 != .free || vs.slots.any fun i => vs.cells.contains i && nm i == x.1) &&
  own.all (fun i => vs.free.contains i && sc.names.lookup (nm i) == some .local && !(nm i == ("__debug__" : Str)) && !(nm i == ("__classdict__" : Str))) &&
  !own.isEmpty && own.all (fun i => own.all fun j => i == j || !(nm i == nm j)) &&
  inner.slots.all (fun i => (own.contains i && !inner.cells.contains i) || (inner.cells.contains i && vs.slots.contains i && vs.cells.contains i && sc.names.lookup (nm i) == some .free)) &&
  inner.stores.all (fun i => own.contains i && inner.slots.contains i) &&
  inner.globs.all (fun i => match c.g i with | some (x, _) => sc.names.lookup x == some .globalImplicit | none => false) &&
  inner.free.all (fun i => vs.free.contains i && !own.contains i)

theorem kC_ok {c : Cx} {nm : Nat → Str} {vs : Vis} {own : List Nat} {inner : Vis} {sc : Scope} (h : kC c nm vs own inner sc = true) : COk c nm vs own inner sc := by
  unfold kC at h
  simp only [Bool.and_eq_true, List.all_eq_true, Bool.or_eq_true, Bool.not_eq_true', bne_iff_ne, ne_eq, beq_iff_eq, List.any_eq_true, List.contains_iff_mem, List.isEmpty_iff] at h
  obtain ⟨⟨⟨⟨⟨⟨⟨⟨⟨⟨h1, h2⟩, h3⟩, h4⟩, h5⟩, h6⟩, h7⟩, h8⟩, h9⟩, h10⟩, h11⟩ := h
  refine ⟨h1, h2, fun x hx e => ?_, fun x hx e => ?_, fun i hi => ?_, ?_, fun i hi j hj hij => ?_, fun i hi => ?_, fun i hi => h9 i hi, fun i hi => ?_, fun i hi => ?_⟩
  · rcases h3 x hx with h | h
    · exact absurd e h
    · exact h
  · rcases h4 x hx with h | h
    · exact absurd e h
    · obtain ⟨i, hi, hc, e⟩ := h; exact ⟨i, hi, hc, e⟩
  · obtain ⟨⟨⟨a, b⟩, d⟩, e⟩ := h5 i hi
    exact ⟨a, b, d, e⟩
  · cases own with
    | nil => simp at h6
    | cons i r => exact ⟨i, List.mem_cons_self ..⟩
  · rcases h7 i hi j hj with h | h
    · exact absurd h hij
    · exact fun e => by rw [e] at h; simp at h
  · rcases h8 i hi with h | h
    · left; refine ⟨h.1, ?_⟩; simpa using h.2
    · right; exact ⟨h.1.1.1, h.1.1.2, h.1.2, h.2⟩
  · have := h10 i hi
    split at this
    · rename_i x v e; exact ⟨x, v, e, by simpa using this⟩
    · cases this
  · have := h11 i hi
    refine ⟨this.1, ?_⟩; simpa using this.2

mutual
noncomputable def kE (c : Cx) (nm : Nat → Str) : Vis → ME → Bool
  | vs, .var i _ => vs.slots.contains i
  | vs, .int .. => true
  | vs, .str .. => true
  | vs, .bool .. => true
  | vs, .non .. => true
  | vs, .dbg _ => true
  | vs, .glb g _ => vs.globs.contains g
  | vs, .bin _ a b _ => kE c nm vs a && kE c nm vs b
  | vs, .cmp _ a b _ => kE c nm vs a && kE c nm vs b
  | vs, .un _ a _ => kE c nm vs a
  | vs, .or2 a b _ => kE c nm vs a && kE c nm vs b
  | vs, .and2 a b _ => kE c nm vs a && kE c nm vs b
  | vs, .ife t a b _ => kB c nm vs t && (kE c nm vs a && kE c nm vs b)
  | vs, .lst _ es _ => kEs c nm vs es
  | vs, .tup es _ _ => kEs c nm vs es
  | vs, .sub a i _ => kE c nm vs a && kE c nm vs i
  | vs, .slc a lo hi s _ _ => kE c nm vs a && (kO c nm vs lo && (kO c nm vs hi && kO c nm vs s))
  | vs, .att a _ _ => kE c nm vs a
  | vs, .catt k _ _ => match c.ca k with
    | some (g, _, _) => vs.globs.contains g
    | none => false
  | vs, .call ck g args _ _ => vs.globs.contains g && (kEs c nm vs args && (match ck with
    | .bi b => (match c.g g with
      | some (_, .bi v) => decide (v = biV b)
      | _ => false)
    | _ => (match c.g g with
      | some (_, .stat _) => true
      | _ => false)))
  | vs, .meth mk o args kw p q => (match mk with
    | .user m => (c.ms m).isSome
    | .bi _ => kw.isNone) && ((p.endLine == q.line) && (decide (args.len ≤ 20) && (kE c nm vs o && kEs c nm vs args)))
  | vs, .lzip .. => false
  | vs, .repl o _ _ _ _ _ _ p q => false
  | vs, .comp e cs own inner sc _ => kC c nm vs own inner sc && ((match cs with
    | .nil => false
    | .cons t it ifs rest => kE c nm vs it && ((tgtSlots t).all (fun i => inner.stores.contains i) && (kBs c nm inner ifs && kCs c nm inner rest))) && kE c nm inner e)
noncomputable def kEs (c : Cx) (nm : Nat → Str) : Vis → MEs → Bool
  | vs, .nil => true
  | vs, .cons e es => kE c nm vs e && kEs c nm vs es
noncomputable def kO (c : Cx) (nm : Nat → Str) : Vis → MO → Bool
  | vs, .none => true
  | vs, .some e => kE c nm vs e
noncomputable def kCs (c : Cx) (nm : Nat → Str) : Vis → MC → Bool
  | vs, .nil => true
  | vs, .cons t it ifs rest => kE c nm vs it && ((tgtSlots t).all (fun i => vs.stores.contains i) && (kBs c nm vs ifs && kCs c nm vs rest))
noncomputable def kB (c : Cx) (nm : Nat → Str) : Vis → MB → Bool
  | vs, .val e => kE c nm vs e && plainT e
  | vs, .cmp _ a b _ => kE c nm vs a && kE c nm vs b
  | vs, .not t _ => kB c nm vs t
  | vs, .boo _ ts _ => kBs c nm vs ts
noncomputable def kBs (c : Cx) (nm : Nat → Str) : Vis → MBs → Bool
  | vs, .nil => true
  | vs, .cons t ts => kB c nm vs t && kBs c nm vs ts
end

theorem cont_mem {l : List Nat} {i : Nat} (h : l.contains i = true) : i ∈ l := List.contains_iff_mem.mp h
theorem tgt_mem {l : List Nat} {s : List Nat} (h : s.all (fun i => l.contains i) = true) : ∀ i ∈ s, i ∈ l := fun i hi => cont_mem (List.all_eq_true.mp h i hi)

mutual
theorem kE_ok {c : Cx} {nm : Nat → Str} : ∀ (e : ME) {vs : Vis}, kE c nm vs e = true → wfE c nm vs e
  | .var i _, vs, h => cont_mem h
  | .int .., vs, h => trivial
  | .str .., vs, h => trivial
  | .bool .., vs, h => trivial
  | .non .., vs, h => trivial
  | .dbg _, vs, h => trivial
  | .glb g _, vs, h => cont_mem h
  | .bin _ a b _, vs, h => by dsimp only [kE] at h; simp only [Bool.and_eq_true] at h; exact ⟨kE_ok a h.1, kE_ok b h.2⟩
  | .cmp _ a b _, vs, h => by dsimp only [kE] at h; simp only [Bool.and_eq_true] at h; exact ⟨kE_ok a h.1, kE_ok b h.2⟩
  | .un _ a _, vs, h => by dsimp only [kE] at h; exact kE_ok a h
  | .or2 a b _, vs, h => by dsimp only [kE] at h; simp only [Bool.and_eq_true] at h; exact ⟨kE_ok a h.1, kE_ok b h.2⟩
  | .and2 a b _, vs, h => by dsimp only [kE] at h; simp only [Bool.and_eq_true] at h; exact ⟨kE_ok a h.1, kE_ok b h.2⟩
  | .ife t a b _, vs, h => by dsimp only [kE] at h; simp only [Bool.and_eq_true] at h; exact ⟨kB_ok t h.1, kE_ok a h.2.1, kE_ok b h.2.2⟩
  | .lst _ es _, vs, h => by dsimp only [kE] at h; exact kEs_ok es h
  | .tup es _ _, vs, h => by dsimp only [kE] at h; exact kEs_ok es h
  | .sub a i _, vs, h => by dsimp only [kE] at h; simp only [Bool.and_eq_true] at h; exact ⟨kE_ok a h.1, kE_ok i h.2⟩
  | .slc a lo hi s _ _, vs, h => by dsimp only [kE] at h; simp only [Bool.and_eq_true] at h; exact ⟨kE_ok a h.1, kO_ok lo h.2.1, kO_ok hi h.2.2.1, kO_ok s h.2.2.2⟩
  | .att a _ _, vs, h => by dsimp only [kE] at h; exact kE_ok a h
  | .catt k _ _, vs, h => by
    dsimp only [kE] at h
    split at h
    · rename_i g x v e; exact ⟨g, x, v, e, cont_mem h⟩
    · cases h
  | .call ck g args _ _, vs, h => by
    dsimp only [kE] at h; simp only [Bool.and_eq_true] at h
    refine ⟨cont_mem h.1, kEs_ok args h.2.1, ?_⟩
    have h3 := h.2.2
    cases ck with
    | fn =>
      simp only at h3 ⊢
      split at h3
      · rename_i x f e; exact ⟨_, _, e⟩
      · cases h3
    | new =>
      simp only at h3 ⊢
      split at h3
      · rename_i x f e; exact ⟨_, _, e⟩
      · cases h3
    | bi b =>
      simp only at h3 ⊢
      split at h3
      · rename_i x v e
        have := of_decide_eq_true h3
        subst this
        exact ⟨_, e⟩
      · cases h3
  | .meth mk o args kw p q, vs, h => by
    dsimp only [kE] at h; simp only [Bool.and_eq_true] at h
    obtain ⟨h1, h2, h3, h4, h5⟩ := h
    refine ⟨?_, h2, of_decide_eq_true h3, kE_ok o h4, kEs_ok args h5⟩
    cases mk with
    | user m => exact Option.isSome_iff_exists.mp h1
    | bi b => simpa using h1
  | .lzip .., vs, h => by dsimp only [kE] at h; cases h
  | .repl o _ _ _ _ _ _ p q, vs, h => by dsimp only [kE] at h; cases h
  | .comp e .nil own inner sc _, vs, h => by dsimp only [kE] at h; simp at h
  | .comp e (.cons t it ifs rest) own inner sc _, vs, h => by
    dsimp only [kE] at h; simp only [Bool.and_eq_true] at h
    obtain ⟨h1, h2, h3⟩ := h
    exact ⟨kC_ok h1, ⟨kE_ok it h2.1, tgt_mem h2.2.1, kBs_ok ifs h2.2.2.1, kCs_ok rest h2.2.2.2⟩, kE_ok e h3⟩
theorem kEs_ok {c : Cx} {nm : Nat → Str} : ∀ (es : MEs) {vs : Vis}, kEs c nm vs es = true → wfEs c nm vs es
  | .nil, vs, h => trivial
  | .cons e es, vs, h => by dsimp only [kEs] at h; simp only [Bool.and_eq_true] at h; exact ⟨kE_ok e h.1, kEs_ok es h.2⟩
theorem kO_ok {c : Cx} {nm : Nat → Str} : ∀ (o : MO) {vs : Vis}, kO c nm vs o = true → wfO c nm vs o
  | .none, vs, h => trivial
  | .some e, vs, h => by dsimp only [kO] at h; exact kE_ok e h
theorem kCs_ok {c : Cx} {nm : Nat → Str} : ∀ (cs : MC) {vs : Vis}, kCs c nm vs cs = true → wfC c nm vs cs
  | .nil, vs, h => trivial
  | .cons t it ifs rest, vs, h => by dsimp only [kCs] at h; simp only [Bool.and_eq_true] at h; exact ⟨kE_ok it h.1, tgt_mem h.2.1, kBs_ok ifs h.2.2.1, kCs_ok rest h.2.2.2⟩
theorem kB_ok {c : Cx} {nm : Nat → Str} : ∀ (t : MB) {vs : Vis}, kB c nm vs t = true → wfB c nm vs t
  | .val e, vs, h => by dsimp only [kB] at h; simp only [Bool.and_eq_true] at h; exact ⟨kE_ok e h.1, h.2⟩
  | .cmp _ a b _, vs, h => by dsimp only [kB] at h; simp only [Bool.and_eq_true] at h; exact ⟨kE_ok a h.1, kE_ok b h.2⟩
  | .not t _, vs, h => by dsimp only [kB] at h; exact kB_ok t h
  | .boo _ ts _, vs, h => by dsimp only [kB] at h; exact kBs_ok ts h
theorem kBs_ok {c : Cx} {nm : Nat → Str} : ∀ (ts : MBs) {vs : Vis}, kBs c nm vs ts = true → wfBs c nm vs ts
  | .nil, vs, h => trivial
  | .cons t ts, vs, h => by dsimp only [kBs] at h; simp only [Bool.and_eq_true] at h; exact ⟨kB_ok t h.1, kBs_ok ts h.2⟩
end


noncomputable def isTup : ME → Option MEs
  | .tup es _ _ => some es
  | _ => none
noncomputable def headLine (is : List (Nat × Pos)) : Nat := match is with
  | [] => 0
  | x :: _ => x.2.line

mutual
noncomputable def kS (c : Cx) (N : Nm) (vs : Vis) : MS → Bool
  | .asg i _ e _ => vs.stores.contains i && (notComp e && kE c N.sl vs e)
  | .asgC sw i ip e cs own inner sc cp p => vs.stores.contains i && (kE c N.sl vs (.comp e cs own inner sc cp) && (sw == (!(vs.cells.contains i) && ip.line == cp.line && !(sc.names.any fun x => x.1 == N.sl i && (x.2 == .local || x.2 == .cell)))))
  | .asgs is e _ => is.all (fun x => vs.stores.contains x.1) && (decide (2 ≤ is.length) && kE c N.sl vs e)
  | .unp is k tp e _ => is.all (fun x => vs.stores.contains x.1) && (kE c N.sl vs e && (match isTup e with
    | some es => !(is.length == 2 || is.length == 3) || (toEs N es).length != is.length || (toEs N es).all (foldedForSure 8)
    | none => true))
  | .swap is k tp es ek ep _ => is.all (fun x => vs.stores.contains x.1) && (kEs c N.sl vs es && ((is.length == 2 || is.length == 3) && ((toEs N es).length == is.length &&
      (is.all (fun x => !(vs.cells.contains x.1) && x.2.line == headLine is) && ((is.map fun x => N.sl x.1).eraseDups.length == is.length && (!((toEs N es).all (foldedForSure 8)) && !((toEs N es).all (constantsAlone 8))))))))
  | .aug i _ _ e _ => vs.stores.contains i && kE c N.sl vs e
  | .satt o _ _ e _ => kE c N.sl vs o && kE c N.sl vs e
  | .ssub a i _ e _ => kE c N.sl vs a && (kE c N.sl vs i && kE c N.sl vs e)
  | .exp e _ => notComp e && kE c N.sl vs e
  | .iff t a b _ => kB c N.sl vs t && (kSs c N vs a && kSs c N vs b)
  | .whl t b _ => kB c N.sl vs t && kSs c N vs b
  | .for_ t it b _ => (tgtSlots t).all (fun i => vs.stores.contains i) && (kE c N.sl vs it && kSs c N vs b)
  | .forE _ i _ p q _ _ => vs.slots.contains i && (p.endLine == q.line)
  | .ret e _ => kE c N.sl vs e
  | .brk _ => true
  | .pas _ => true
  | .raw _ => true
noncomputable def kSs (c : Cx) (N : Nm) (vs : Vis) : MSs → Bool
  | .nil => true
  | .cons s r => kS c N vs s && kSs c N vs r
end

/-- what the swap's look does, its two displays at hand -/
noncomputable def starD : Expr → Bool
  | .Starred .. => true
  | _ => false
noncomputable def nameD (env : Env) (line : Nat) : Expr → Option Str
  | .Name id pos => if env.kindOf id == some .local && pos.line == line then some id else none
  | _ => none
noncomputable def swapD (ts vs : List Expr) (env : Env) : Sem (Option (List Str)) := do
  if !(ts.length == 2 || ts.length == 3) || vs.length != ts.length || env.blockKind != .function then return none
  if vs.any starD then return none
  let line := (ts.head?.map (·.pos.line)).getD 0
  let names := ts.filterMap (nameD env line)
  if names.length != ts.length || names.eraseDups.length != names.length then return none
  if vs.all (foldedForSure 8) then return none
  if vs.all (constantsAlone 8) then unsupported "assign.tuple-of-constant-expressions:order-of-the-stores"
  return some names

theorem unp_none {c : Cx} {N : Nm} {is : List (Nat × Pos)} {k : Nat} {tp : Pos} {e : ME} {env : Env}
    (h : (match isTup e with
    | some es => !(is.length == 2 || is.length == 3) || (toEs N es).length != is.length || (toEs N es).all (foldedForSure 8)
    | none => true) = true) : swappedStores [.Tuple (nameEs N is) k tp] (toE N e) env = pure none := by
  cases e with
  | tup es _ _ =>
    show swappedStores [.Tuple (nameEs N is) k tp] (.Tuple (toEs N es) _ _) env = _
    show swapD _ _ _ = _
    unfold swapD
    dsimp only
    have hl : (nameEs N is).length = is.length := by simp [nameEs]
    simp only [isTup, Bool.or_eq_true] at h
    rw [hl]
    generalize hq : toEs N es = vs at h ⊢
    by_cases h1 : (!(is.length == 2 || is.length == 3)) = true
    · simp [h1]
    · by_cases h2 : (vs.length != is.length) = true
      · simp [h1, h2]
      · have h3 := (h.resolve_left fun h => h.elim h1 h2)
        simp only [h3]
        split
        · rfl
        · split
          · rfl
          · split
            · rfl
            · rfl
  | _ => rfl

theorem names_map {N : Nm} {env : Env} {l : Nat} {f : Expr → Option Str} (hf : ∀ id pos, f (.Name id pos) = if (env.kindOf id == some NameKind.local && pos.line == l) = true then some id else none) : ∀ {is : List (Nat × Pos)}, (∀ x ∈ is, (env.kindOf (N.sl x.1) == some NameKind.local && x.2.line == l) = true) →
    (nameEs N is).filterMap f = is.map fun x => N.sl x.1
  | [], _ => rfl
  | x :: r, h => by
    have h1 := h x (List.mem_cons_self ..)
    have h2 := names_map hf (fun y hy => h y (List.mem_cons_of_mem _ hy))
    simp only [nameEs, List.map_cons, List.filterMap_cons] at h2 ⊢
    rw [hf, if_pos h1]
    simp only []
    rw [h2]
theorem no_star {N : Nm} {f : Expr → Bool} (hf : ∀ e : ME, f (toE N e) = false) : ∀ es : MEs, (toEs N es).any f = false
  | .nil => rfl
  | .cons e r => by
    show ((toE N e :: toEs N r).any _) = false
    rw [List.any_cons, no_star hf r, hf]
    rfl

theorem swap_some {c : Cx} {N : Nm} {vs : Vis} {is : List (Nat × Pos)} {k ek : Nat} {tp ep : Pos} {es : MEs} {env : Env} (kd : Kinds N.sl vs env) (hs : ∀ x ∈ is, x.1 ∈ vs.stores)
    (h1 : (is.length == 2 || is.length == 3) = true) (h2 : ((toEs N es).length == is.length) = true) (h3 : is.all (fun x => !(vs.cells.contains x.1) && x.2.line == headLine is) = true)
    (h4 : ((is.map fun x => N.sl x.1).eraseDups.length == is.length) = true) (h5 : (!((toEs N es).all (foldedForSure 8))) = true) (h6 : (!((toEs N es).all (constantsAlone 8))) = true) :
    swappedStores [.Tuple (nameEs N is) k tp] (.Tuple (toEs N es) ek ep) env = pure (some (is.map fun x => N.sl x.1)) := by
  show swapD _ _ _ = _
  unfold swapD
  dsimp only
  have hl : (nameEs N is).length = is.length := by simp [nameEs]
  have hh : (((nameEs N is).head?.map (·.pos.line)).getD 0) = headLine is := by cases is with | nil => rfl | cons x r => rfl
  have hx : ∀ x ∈ is, (env.kindOf (N.sl x.1) == some NameKind.local && x.2.line == headLine is) = true := fun x hx => by
    have a := List.all_eq_true.mp h3 x hx
    rw [Bool.and_eq_true] at a
    rw [kd.2 _ (hs x hx), a.1, a.2]; rfl
  have hb : (env.blockKind != .function) = false := by rw [kd.1]; rfl
  have h2' : ((toEs N es).length != is.length) = false := by simpa using h2
  rw [hl, hh, names_map (fun _ _ => rfl) hx, no_star (fun e => by cases e <;> rfl), h1, h2', hb]
  simp only [Bool.not_true, Bool.false_or, Bool.false_eq_true, if_false, List.length_map]
  have h4' : ((is.map fun x => N.sl x.1).eraseDups.length != is.length) = false := by simpa using h4
  have h5' : (toEs N es).all (foldedForSure 8) = false := by simpa only [Bool.not_eq_true'] using h5
  have h6' : (toEs N es).all (constantsAlone 8) = false := by simpa only [Bool.not_eq_true'] using h6
  rw [h4', h5', h6']
  simp

mutual
theorem kS_ok {c : Cx} {N : Nm} : ∀ (s : MS) {vs : Vis}, kS c N vs s = true → wfS c N vs s
  | .asg i _ e _, vs, h => by dsimp only [kS] at h; simp only [Bool.and_eq_true] at h; exact ⟨cont_mem h.1, h.2.1, kE_ok e h.2.2⟩
  | .asgC sw i ip e cs own inner sc cp p, vs, h => by
    dsimp only [kS] at h; simp only [Bool.and_eq_true] at h
    obtain ⟨h1, h2, h3⟩ := h
    refine ⟨cont_mem h1, kE_ok _ h2, fun env kd => ?_⟩
    have e := kd.2 i (cont_mem h1)
    have hb : (env.blockKind == .function) = true := by rw [kd.1]; rfl
    show (pure (env.blockKind == .function && env.kindOf (N.sl i) == some .local && ip.line == cp.line && !(sc.names.any fun x => x.1 == N.sl i && (x.2 == .local || x.2 == .cell))) : Sem Bool) = _
    rw [e, hb, Bool.true_and, ← eq_of_beq h3]
  | .asgs is e _, vs, h => by dsimp only [kS] at h; simp only [Bool.and_eq_true] at h; exact ⟨fun x hx => cont_mem (List.all_eq_true.mp h.1 x hx), of_decide_eq_true h.2.1, kE_ok e h.2.2⟩
  | .unp is k tp e _, vs, h => by
    dsimp only [kS] at h
    rw [Bool.and_eq_true, Bool.and_eq_true] at h
    exact ⟨fun x hx => cont_mem (List.all_eq_true.mp h.1 x hx), kE_ok e h.2.1, fun env kd => unp_none (c := c) h.2.2⟩
  | .swap is k tp es ek ep _, vs, h => by
    dsimp only [kS] at h
    rw [Bool.and_eq_true, Bool.and_eq_true, Bool.and_eq_true, Bool.and_eq_true, Bool.and_eq_true, Bool.and_eq_true, Bool.and_eq_true] at h
    obtain ⟨h1, h2, h3, h4, h5, h6, h7, h8⟩ := h
    exact ⟨fun x hx => cont_mem (List.all_eq_true.mp h1 x hx), kEs_ok es h2, fun env kd => swap_some (c := c) kd (fun x hx => cont_mem (List.all_eq_true.mp h1 x hx)) h3 h4 h5 h6 h7 h8⟩
  | .aug i _ _ e _, vs, h => by dsimp only [kS] at h; simp only [Bool.and_eq_true] at h; exact ⟨cont_mem h.1, kE_ok e h.2⟩
  | .satt o _ _ e _, vs, h => by dsimp only [kS] at h; simp only [Bool.and_eq_true] at h; exact ⟨kE_ok o h.1, kE_ok e h.2⟩
  | .ssub a i _ e _, vs, h => by dsimp only [kS] at h; simp only [Bool.and_eq_true] at h; exact ⟨kE_ok a h.1, kE_ok i h.2.1, kE_ok e h.2.2⟩
  | .exp e _, vs, h => by dsimp only [kS] at h; simp only [Bool.and_eq_true] at h; exact ⟨h.1, kE_ok e h.2⟩
  | .iff t a b _, vs, h => by dsimp only [kS] at h; simp only [Bool.and_eq_true] at h; exact ⟨kB_ok t h.1, kSs_ok a h.2.1, kSs_ok b h.2.2⟩
  | .whl t b _, vs, h => by dsimp only [kS] at h; simp only [Bool.and_eq_true] at h; exact ⟨kB_ok t h.1, kSs_ok b h.2⟩
  | .for_ t it b _, vs, h => by dsimp only [kS] at h; simp only [Bool.and_eq_true] at h; exact ⟨tgt_mem h.1, kE_ok it h.2.1, kSs_ok b h.2.2⟩
  | .forE _ i _ p q _ _, vs, h => by dsimp only [kS] at h; simp only [Bool.and_eq_true] at h; exact ⟨cont_mem h.1, h.2⟩
  | .ret e _, vs, h => by dsimp only [kS] at h; exact kE_ok e h
  | .brk _, vs, h => trivial
  | .pas _, vs, h => trivial
  | .raw _, vs, h => trivial
theorem kSs_ok {c : Cx} {N : Nm} : ∀ (ss : MSs) {vs : Vis}, kSs c N vs ss = true → wfSs c N vs ss
  | .nil, vs, h => trivial
  | .cons s r, vs, h => by dsimp only [kSs] at h; simp only [Bool.and_eq_true] at h; exact ⟨kS_ok s h.1, kSs_ok r h.2⟩
end

/-- what is looked at of a def -/
noncomputable def kDef (c : Cx) (N : Nm) (fd : FuncData) (bd : MSs) (vs : Vis) (ps : List Nat) (nl dm : Nat) : Bool :=
  !fd.scope.isCoroutine && !fd.scope.isGenerator && fd.closure.isEmpty && fd.globals == mainGlobals && fd.builtins == builtinsNs && fd.scope.kind == .function &&
  vs.slots.all (fun i => !(N.sl i == ("__debug__" : Str)) && !(N.sl i == ("__classdict__" : Str)) && (if vs.cells.contains i then fd.scope.names.lookup (N.sl i) == some .cell else fd.scope.names.lookup (N.sl i) == some .local)) &&
  vs.stores.all (fun i => vs.slots.contains i) &&
  vs.globs.all (fun i => match c.g i with | some (x, _) => fd.scope.names.lookup x == some .globalImplicit | none => false) &&
  vs.slots.all (fun i => vs.slots.all fun j => i == j || !(N.sl i == N.sl j)) &&
  (!vs.slots.contains dm && vs.slots.all fun i => !(N.sl i == N.sl dm)) &&
  vs.free.all (fun i => !vs.slots.contains i && !(i == dm)) &&
  (decide ps.Nodup && ps.all fun i => vs.slots.contains i && decide (i < nl)) &&
  kSs c N vs bd

theorem kDef_ok {c : Cx} {N : Nm} {f : Addr} {fd : FuncData} {bd : MSs} {vs : Vis} {ps : List Nat} {nl dm : Nat} (X : c.K.In c.s0.heap) {oc : Value} {od : Option Addr} {os : Array (Option Value)}
    (hf : c.K.lookup f = some ⟨oc, od, .func fd, os⟩) (hc : codeIn c.K fd.code fd.qualname = true) (hb : fd.body = .stmts (toSs N bd)) (h : kDef c N fd bd vs ps nl dm = true) : DefOk c N f fd bd vs ps nl dm := by
  unfold kDef at h
  simp only [Bool.and_eq_true] at h
  obtain ⟨⟨⟨⟨⟨⟨⟨⟨⟨⟨⟨⟨⟨h1, h2⟩, h3⟩, h4⟩, h5⟩, h6⟩, h7⟩, h8⟩, h9⟩, h10⟩, h11⟩, h12⟩, h13⟩, h14⟩ := h
  have h7' := List.all_eq_true.mp h7
  refine ⟨⟨_, X _ _ hf, rfl⟩, codeRec_of X hc, by simpa using h1, by simpa using h2, hb, by simpa using h3, by simpa using h4, by simpa using h5, by simpa using h6, fun i hi => ?_, fun i hi => cont_mem (List.all_eq_true.mp h8 i hi), fun i hi => ?_, fun i hi j hj hij => ?_, ⟨?_, fun i hi => ?_⟩, fun i hi => ?_, ⟨of_decide_eq_true h13.1, fun i hi => ?_⟩, kSs_ok bd h14⟩
  · have := h7' i hi
    simp only [Bool.and_eq_true, Bool.not_eq_true'] at this
    refine ⟨this.1.1, this.1.2, ?_⟩
    have h := this.2
    split at h
    · rename_i hc; exact .inr ⟨cont_mem hc, by simpa using h⟩
    · rename_i hc; exact .inl ⟨fun hm => hc (List.contains_iff_mem.mpr hm), by simpa using h⟩
  · have := List.all_eq_true.mp h9 i hi
    split at this
    · rename_i x v e; exact ⟨x, v, e, by simpa using this⟩
    · cases this
  · have := List.all_eq_true.mp (List.all_eq_true.mp h10 i hi) j hj
    simp only [Bool.or_eq_true, beq_iff_eq, Bool.not_eq_true'] at this
    rcases this with h | h
    · exact absurd h hij
    · exact fun e => by rw [e] at h; simp at h
  · have := h11.1
    intro hm; rw [List.contains_iff_mem.mpr hm] at this; cases this
  · have := List.all_eq_true.mp h11.2 i hi
    intro e; rw [e] at this; simp at this
  · have := List.all_eq_true.mp h12 i hi
    simp only [Bool.and_eq_true, Bool.not_eq_true'] at this
    refine ⟨fun hm => ?_, fun e => ?_⟩
    · have := this.1; rw [List.contains_iff_mem.mpr hm] at this; cases this
    · have := this.2; rw [e] at this; simp at this
  · have := List.all_eq_true.mp h13.2 i hi
    simp only [Bool.and_eq_true] at this
    exact ⟨cont_mem this.1, of_decide_eq_true this.2⟩


noncomputable def kMain (es : Array DictEntry) (gl : List (Str × GV)) : Bool := (es.toList.all fun e => match e.key with | .str _ _ => true | _ => false) &&
  gl.all fun p => !(p.1 == ("__debug__" : Str)) && (match p.2 with
    | .stat a => decide (nsFind es p.1 = some (.ref a))
    | .num n => (match nsFind es p.1 with | some (.int m _) => m == n | _ => false)
    | .bi b => decide (nsFind es p.1 = none) && (decide (bootBuiltins p.1 = some b.val) && !(p.1 == ("__name__" : Str)))
    | .pat _ a => decide (nsFind es p.1 = some (.ref a)))
noncomputable def kKeeps (K : Frag) (gl : List (Str × GV)) : Bool := gl.all fun p => match p.2 with | .stat a => keepIn K (.ref a) | _ => true
noncomputable def kMs (K : Frag) (cls : List Addr) (an : Nat → Str) (ml : List (Addr × Str × Addr)) : Bool := ml.all fun m => plainGet K m.1 m.2.1 && (decide (findIn K (.ref m.1) m.2.1 = some (some (.ref m.2.2))) && (isFn K (.ref m.2.2) && (keepIn K (.ref m.2.2) && (cls.contains m.1 && (List.range 6).all fun i => !(an i == m.2.1)))))
noncomputable def kCls (K : Frag) (an : Nat → Str) (C : Addr) : Bool := plainGet K C "" && (hasDictIn K C && (decide (findIn K (.ref C) "__setattr__" = some (some (.builtin "object.__setattr__"))) && (plainOver K C && (List.range 6).all fun i => decide (findIn K (.ref C) (an i) = some none) && decide (takerIn K C (an i) = some none))))
noncomputable def kAn (an : Nat → Str) : Bool := (List.range 6).all fun i => (List.range 6).all fun j => i == j || !(an i == an j)

theorem ok_of {c : Cx} {gl : List (Str × GV)} {ml : List (Addr × Str × Addr)} (hg : c.g = fun i => gl[i]?) (hm : c.ms = fun i => ml[i]?) (X : c.K.In c.s0.heap) {oc : Value} {od : Option Addr} {es : Array DictEntry} {ep : Nat} {os : Array (Option Value)} {mb : Str → Option Value}
    (h1 : kAn c.an = true) (h2 : c.C ∈ c.cls) (h3 : ∀ C ∈ c.cls, kCls c.K c.an C = true) (h4 : wsNames = (List.range 5).map c.an) (h5 : kKeeps c.K gl = true) (h6 : kMs c.K c.cls c.an ml = true)
    (h7 : ∀ i g x v, c.ca i = some (g, x, v) → ∃ y a mc t, c.g g = some (y, .stat a) ∧ typeIn c.K (.ref a) = some mc ∧ readsIn c.K a mc = true ∧ findCls c.K (.ref a) mc x = some (.val (.str v t)) ∧ handedIn (.str v t) = true)
    (h8 : c.K.lookup mainGlobals = some ⟨oc, od, .dict es ep, os⟩) (h9 : kMain es gl = true) (hb : c.s0.heap.Ns builtinsNs mb) (hbb : ∀ x : Str, x ≠ "__name__" → mb x = bootBuiltins x) (hn : c.s0.heap.NoLimit)
    (h10 : ∀ p ∈ gl, ∀ nm a, p.2 = .pat nm a → PatAt c.s0.heap nm a) : Ok c where
  In := X
  an := fun i j hi hj e => by
    have := List.all_eq_true.mp (List.all_eq_true.mp h1 i (List.mem_range.mpr hi)) j (List.mem_range.mpr hj)
    simp only [Bool.or_eq_true, beq_iff_eq, Bool.not_eq_true'] at this
    rcases this with h | h
    · exact h
    · rw [e] at h; simp at h
  wsC := h2
  inst := fun C hC => by
    have := h3 C hC
    unfold kCls at this
    simp only [Bool.and_eq_true, decide_eq_true_eq] at this
    obtain ⟨a, b, d, e, f⟩ := this
    refine ⟨a, b, d, e, fun i hi => ?_⟩
    have := List.all_eq_true.mp f i (List.mem_range.mpr hi)
    simpa only [Bool.and_eq_true, decide_eq_true_eq] using this
  ws := h4
  keeps := fun i x a e => by
    rw [hg] at e
    exact List.all_eq_true.mp h5 _ (List.mem_of_getElem? e)
  ms := fun i C x f e => by
    rw [hm] at e
    have := List.all_eq_true.mp h6 _ (List.mem_of_getElem? e)
    simp only [Bool.and_eq_true, decide_eq_true_eq] at this
    obtain ⟨a, b, d, u, v, y⟩ := this
    refine ⟨a, b, d, u, List.contains_iff_mem.mp v, fun i hi => ?_⟩
    have := List.all_eq_true.mp y i (List.mem_range.mpr hi)
    intro e; rw [e] at this; simp at this
  ca := h7
  mg := by
    unfold kMain at h9
    rw [Bool.and_eq_true] at h9
    refine ⟨fun x => nsFind es x, ⟨_, es, ep, X _ _ h8, rfl, fun e he => ?_, fun _ => rfl⟩, mb, hb, fun i x v e => ?_⟩
    · have := List.all_eq_true.mp h9.1 e (Array.mem_def.mp he)
      split at this
      · rename_i n t e; exact ⟨n, t, e⟩
      · cases this
    · rw [hg] at e
      have := List.all_eq_true.mp h9.2 _ (List.mem_of_getElem? e)
      rw [Bool.and_eq_true] at this
      refine ⟨by simpa using this.1, ?_⟩
      have h := this.2
      cases v with
      | stat a => simpa using h
      | num n =>
        simp only at h ⊢
        split at h
        · rename_i m t e; exact ⟨t, by rw [e, eq_of_beq h]⟩
        · cases h
      | bi b =>
        simp only [Bool.and_eq_true, decide_eq_true_eq] at h ⊢
        refine ⟨h.1, ?_⟩
        rw [hbb x (by intro e; have := h.2.2; rw [e] at this; simp at this), h.2.1]
      | pat nm a => simpa using h
  nolimit := hn
  pat := fun i x nm a e => by
    rw [hg] at e
    exact h10 _ (List.mem_of_getElem? e) nm a rfl


section
variable {c : Cx} {r : Nat}

/-- one statement of a list -/
theorem stp {s : MS} {rest : MSs} {st : St} {k : KF} (h : ∀ K : KF, (∀ st', wpSs c r rest st' k → K .next st') → (∀ v st', k (.ret v) st' → K (.ret v) st') → (∀ st', k .brk st' → K .brk st') → wpS c r s st K) : wpSs c r (.cons s rest) st k := by
  dsimp only [wpSs]
  exact h _ (fun _ x => x) (fun _ _ x => x) (fun _ x => x)
theorem stn {st : St} {k : KF} (h : k .next st) : wpSs c r .nil st k := by dsimp only [wpSs]; exact h

/-- a while loop, by what stands at each turn -/
theorem whK_inv {T : St → KB → Prop} {B : St → KF → Prop} (Inv : Nat → St → Prop) (Pe : St → Prop) (P : V → St → Prop) (Pb : St → Prop) (N : Nat) (hN : ∀ i st, Inv i st → i ≤ N)
    (step : ∀ i st (K : KB), Inv i st → (∀ st', Pe st' → K false st') → (∀ st', (∀ K : KF, (∀ st'', Inv (i + 1) st'' → K .next st'') → (∀ v st'', P v st'' → K (.ret v) st'') → (∀ st'', Pb st'' → K .brk st'') → B st' K) → K true st') → T st K) :
    ∀ (n i : Nat) {st : St} {k : KF}, Inv i st → N < n + i → (∀ st', Pe st' → k .next st') → (∀ v st', P v st' → k (.ret v) st') → (∀ st', Pb st' → k .next st') → whK T B n st k
  | 0, i, st, k, hi, hn, he, hr, hb => by have := hN i st hi; omega
  | n + 1, i, st, k, hi, hn, he, hr, hb => by
    dsimp only [whK]
    refine step i st _ hi (fun st' h => ⟨fun e => (by cases e), fun _ => he st' h⟩) (fun st' h => ⟨fun _ => ?_, fun e => (by cases e)⟩)
    exact h _ (fun st'' h' => whK_inv Inv Pe P Pb N hN step n (i + 1) h' (by omega) he hr hb) (fun v st'' h' => hr v st'' h') (fun st'' h' => hb st'' h')

theorem forK_inv' {o : Option (Nat × List D)} {t : MT} {B : St → KF → Prop} (Inv : Nat → St → Prop) (P : V → St → Prop) (Pb : St → Prop) (still : ∀ i st, Inv i st → stillL o st) :
    ∀ (xs : List V) (i : Nat), (∀ j x st (K : KF), Inv (i + j) st → xs[j]? = some x → (∀ st', Inv (i + j + 1) st' → K .next st') → (∀ v st', P v st' → K (.ret v) st') → (∀ st', Pb st' → K .brk st') → bindT t x st fun st => B st K) →
      ∀ {st : St} {k : KF}, Inv i st → (∀ st', Inv (i + xs.length) st' → k .next st') → (∀ v st', P v st' → k (.ret v) st') → (∀ st', Pb st' → k .next st') → forK o t B xs st k
  | [], i, step, st, k, hi, he, hr, hb => ⟨still i st hi, he st (by simpa using hi)⟩
  | x :: xs, i, step, st, k, hi, he, hr, hb => by
    dsimp only [forK]
    refine ⟨still i st hi, step 0 x st _ (by simpa using hi) rfl (fun st' h' => ?_) (fun v st' h' => hr v st' h') (fun st' h' => hb st' h')⟩
    refine forK_inv' Inv P Pb still xs (i + 1) (fun j x' st2 K h1 h2 h3 h4 h5 => step (j + 1) x' st2 K (by rw [show i + (j + 1) = i + 1 + j by omega]; exact h1) (by simpa using h2) (fun st3 h6 => h3 st3 (by rw [show i + 1 + j + 1 = i + (j + 1) + 1 by omega]; exact h6)) h4 h5) (by simpa using h') (fun st'' h'' => he st'' (by rw [List.length_cons, show i + (xs.length + 1) = i + 1 + xs.length by omega]; exact h'')) hr hb
/-- a for loop, by what stands at each turn -/
theorem forK_inv {o : Option (Nat × List D)} {t : MT} {B : St → KF → Prop} {xs : List V} {st : St} {k : KF} (Inv : Nat → St → Prop) (P : V → St → Prop) (Pb : St → Prop) (still : ∀ i st, Inv i st → stillL o st)
    (step : ∀ j x st (K : KF), Inv j st → xs[j]? = some x → (∀ st', Inv (j + 1) st' → K .next st') → (∀ v st', P v st' → K (.ret v) st') → (∀ st', Pb st' → K .brk st') → bindT t x st fun st => B st K)
    (h0 : Inv 0 st) (he : ∀ st', Inv xs.length st' → k .next st') (hr : ∀ v st', P v st' → k (.ret v) st') (hb : ∀ st', Pb st' → k .next st') : forK o t B xs st k :=
  forK_inv' Inv P Pb still xs 0 (fun j x st K h1 h2 h3 h4 h5 => step j x st K (by simpa using h1) h2 (by simpa using h3) h4 h5) h0 (by simpa using he) hr hb

theorem loopG_inv' {o : Option (Nat × List D)} {body : V → St → List D → (St → List D → Prop) → Prop} (Inv : Nat → St → List D → Prop) (still : ∀ i st acc, Inv i st acc → stillL o st) :
    ∀ (xs : List V) (i : Nat), (∀ j x st acc (K : St → List D → Prop), Inv (i + j) st acc → xs[j]? = some x → (∀ st' acc', Inv (i + j + 1) st' acc' → K st' acc') → body x st acc K) →
      ∀ {st : St} {acc : List D} {k : St → List D → Prop}, Inv i st acc → (∀ st' acc', Inv (i + xs.length) st' acc' → k st' acc') → loopG o body xs st acc k
  | [], i, step, st, acc, k, hi, he => ⟨still i st acc hi, he st acc (by simpa using hi)⟩
  | x :: xs, i, step, st, acc, k, hi, he => by
    dsimp only [loopG]
    refine ⟨still i st acc hi, step 0 x st acc _ (by simpa using hi) rfl (fun st' acc' h' => ?_)⟩
    refine loopG_inv' Inv still xs (i + 1) (fun j x' st2 acc2 K h1 h2 h3 => step (j + 1) x' st2 acc2 K (by rw [show i + (j + 1) = i + 1 + j by omega]; exact h1) (by simpa using h2) (fun st3 a3 h6 => h3 st3 a3 (by rw [show i + 1 + j + 1 = i + (j + 1) + 1 by omega]; exact h6))) (by simpa using h') (fun st'' a'' h'' => he st'' a'' (by rw [List.length_cons, show i + (xs.length + 1) = i + 1 + xs.length by omega]; exact h''))
theorem loopG_inv {o : Option (Nat × List D)} {body : V → St → List D → (St → List D → Prop) → Prop} {xs : List V} {st : St} {acc : List D} {k : St → List D → Prop} (Inv : Nat → St → List D → Prop) (still : ∀ i st acc, Inv i st acc → stillL o st)
    (step : ∀ j x st acc (K : St → List D → Prop), Inv j st acc → xs[j]? = some x → (∀ st' acc', Inv (j + 1) st' acc' → K st' acc') → body x st acc K)
    (h0 : Inv 0 st acc) (he : ∀ st' acc', Inv xs.length st' acc' → k st' acc') : loopG o body xs st acc k :=
  loopG_inv' Inv still xs 0 (fun j x st acc K h1 h2 h3 => step j x st acc K (by simpa using h1) h2 (by simpa using h3)) h0 (by simpa using he)

theorem get_top {σ : List MObj} {m : MObj} : (σ ++ [m])[σ.length]? = some m := by simp
theorem set_top {σ : List MObj} {m m' : MObj} : (σ ++ [m]).set σ.length m' = σ ++ [m'] := by simp
theorem strq {a b : Nat} : ((⟨#[a]⟩ : Str) == ⟨#[b]⟩) = decide (a = b) := by
  by_cases h : a = b
  · subst h; simp
  · simp [h]
/-- a text, by its signs -/
noncomputable def sv (l : List Nat) : V := .d (.str ⟨l.toArray⟩)
noncomputable def tameC (ch : Nat) : Bool := ch == 9 || (32 ≤ ch && ch < 127)
theorem tame_of {l : List Nat} (h : ∀ x ∈ l, tameC x = true) : tame ⟨l.toArray⟩ = true := by
  unfold tame
  rw [Array.all_eq_true_iff_forall_mem]
  intro x hx
  exact h x (by simpa using hx)
theorem str_beq {a b : List Nat} : ((⟨a.toArray⟩ : Str) == ⟨b.toArray⟩) = decide (a = b) := by
  by_cases h : a = b
  · subst h; simp
  · have : ¬ ((⟨a.toArray⟩ : Str) = ⟨b.toArray⟩) := fun e => h (by injection e with e; simpa using e)
    simp [h, this]
theorem str_len {a : List Nat} : (⟨a.toArray⟩ : Str).length = a.length := rfl
end

theorem clip_nat {n i : Nat} (h : i ≤ n) : clipAt n (i : Int) = i := by unfold clipAt; split <;> omega
theorem clip_neg {n j : Nat} (h0 : 0 < j) (h : j ≤ n) : clipAt n (-(j : Int)) = n - j := by unfold clipAt; rw [if_pos (by omega)]; omega
theorem cut_from {α : Type} {l : List α} {i : Nat} (h : i ≤ l.length) : cutOf l (some (i : Int)) none = l.drop i := by
  unfold cutOf
  simp only [Option.elim, clip_nat h]
  rw [List.take_of_length_le]; simp
theorem cut_back {α : Type} {l : List α} {j : Nat} (h0 : 0 < j) (h : j ≤ l.length) : cutOf l none (some (-(j : Int))) = l.take (l.length - j) := by
  unfold cutOf
  simp only [Option.elim, clip_neg h0 h, List.drop_zero, Nat.sub_zero]
theorem cut_all {α : Type} {l : List α} : cutOf l none none = l := by
  unfold cutOf
  simp only [Option.elim, List.drop_zero, Nat.sub_zero]
  exact List.take_length
theorem at_nat {α : Type} {l : List α} {i : Nat} : atIdx l (i : Int) = l[i]? := by
  unfold atIdx
  rw [if_pos (Int.natCast_nonneg i)]; rfl
theorem at_neg {α : Type} {l : List α} {j : Nat} (h0 : 0 < j) (h : j ≤ l.length) : atIdx l (-(j : Int)) = l[l.length - j]? := by
  unfold atIdx
  rw [if_neg (by omega), if_pos (by omega)]
  congr 1
  omega
theorem rangeL_from {a b : Int} (h : a ≤ b) : rangeL a b 1 = (List.range (b - a).toNat).map fun (j : Nat) => a + (j : Int) := by
  unfold rangeL rangeLen
  have e : (if a < b then ((b - a - 1) / 1 + 1).toNat else 0) = (b - a).toNat := by
    split
    · rw [Int.ediv_one]; congr 1; omega
    · have : b - a = 0 := by omega
      rw [this]; rfl
  rw [e]
  simp only [Int.one_mul]
theorem rangeL_none {a b : Int} (h : b ≤ a) : rangeL a b 1 = [] := by
  unfold rangeL rangeLen
  rw [if_neg (by omega)]; rfl
theorem rng_get {a b : Int} {j : Nat} {x : V} (e : ((rangeL a b 1).map fun i => V.d (.int i))[j]? = some x) : a + j < b ∧ x = .d (.int (a + j)) := by
  rcases Int.lt_or_le a b with h | h
  · rw [rangeL_from (by omega)] at e
    simp only [List.map_map, List.getElem?_map] at e
    by_cases hj : j < (b - a).toNat
    · rw [List.getElem?_range hj] at e
      simp at e
      exact ⟨by omega, e.symm⟩
    · rw [List.getElem?_eq_none (by simpa using hj)] at e; cases e
  · rw [rangeL_none h] at e; simp at e
theorem rng_len {a b : Int} : ((rangeL a b 1).map fun i => V.d (.int i)).length = (b - a).toNat := by
  rcases Int.lt_or_le a b with h | h
  · rw [rangeL_from (by omega)]; simp
  · rw [rangeL_none h]; simp; omega
theorem bits_small {b : Int} (h : b.natAbs < 2 ^ 60) : Builtin.Int.intBits b ≤ 64 := by
  unfold Builtin.Int.intBits
  split
  · omega
  · rename_i hb
    have h0 : b.natAbs ≠ 0 := by intro e; apply hb; have : b = 0 := by omega
                                 rw [this]; rfl
    have := (Nat.log2_lt h0).mpr h
    omega
theorem mul_small {a b : Int} (h : b.natAbs < 2 ^ 60) : IntMulOk a b := IntMulOk.of_right (bits_small h)
theorem div_small {a b : Int} (h0 : b ≠ 0) (h : b.natAbs < 2 ^ 60) : Builtin.divisionGoesByPylong a b = false := by
  refine PyProof.noPylong_of_log2 ?_
  have h0 : b.natAbs ≠ 0 := by omega
  have := (Nat.log2_lt h0).mpr h
  omega

section
variable {c : Cx} {r : Nat} {f : Addr} {xs : List V} {kw : Option Bool} {σ : List MObj} {k : V → List MObj → Prop}

theorem Nxt.cut' {own : List Addr} {ρ ρ' : Rho} {s s' : Shared} (N : Nxt own ρ s ρ' s') : Nxt own ρ s (ρ'.take ρ.length) s' := N.cut.1
/-- what a call has made for itself alone is let go; what stood may have turned -/
theorem TC_cut (h : TCc c r f xs kw σ fun v σ' => ∃ d σ2 τ, v = .d d ∧ σ' = σ2 ++ τ ∧ σ2.length = σ.length ∧ Shut σ2 ∧ k (.d d) σ2) : TCc c r f xs kw σ k := by
  intro A av ρ s R vals hr R0 hv q
  refine h A av ρ s R vals hr R0 hv fun v σ' ρ' val s' R' N' rv hk => ?_
  obtain ⟨d, σ2, τ, rfl, rfl, hl, hS, hk⟩ := hk
  have e2 : (σ2 ++ τ).take ρ.length = σ2 := by rw [R0.len, ← hl, List.take_left]
  have R2 := R'.cut (n := ρ.length) (by rw [List.length_append, R0.len]; omega) (by rw [e2]; exact hS)
  rw [e2] at R2
  exact q (.d d) σ2 _ val s' R2 N'.cut' (Rep.mono still_take rv) hk
end
theorem Shut.nil : Shut [] := fun m h => by simp at h

section
variable {c : Cx} {r : Nat}
noncomputable abbrev KG := St → List D → Prop
theorem wpG1 {e : ME} {t : MT} {it : ME} {ifs : MBs} {st : St} {k : KG}
    (h : ∀ B : V → St → List D → KG → Prop, (∀ x st acc (K : KG), (bindT t x st fun st => wpBs c r .And ifs st fun b st => (b = true → wpE c r e st fun v st => match v.toD with
        | some d => acc.length < 2 ^ 20 ∧ K st (acc ++ [d])
        | none => False) ∧ (b = false → K st acc)) → B x st acc K) →
      wpE c r it st fun x st1 => match itemsOf st1 x with
        | some (xs, o) => loopG o B xs st1 [] k
        | none => False) : wpG c r (.cons t it ifs .nil) (wpE c r e) st [] k := by
  dsimp only [wpG]
  exact h _ fun x st acc K h => h
theorem comp1 {e : ME} {t : MT} {it : ME} {ifs : MBs} {own : List Nat} {inner : Vis} {sc : Scope} {p : Pos} {st : St} {k : KV}
    (h : ∀ B : V → St → List D → KG → Prop, (∀ x st acc (K : KG), (bindT t x st fun st => wpBs c r .And ifs st fun b st => (b = true → wpE c r e st fun v st => match v.toD with
        | some d => acc.length < 2 ^ 20 ∧ K st (acc ++ [d])
        | none => False) ∧ (b = false → K st acc)) → B x st acc K) →
      wpE c r it st fun x st1 => match itemsOf st1 x with
        | some (xs, o) => loopG o B xs st1 [] fun st' acc => k (.d (.list acc)) ⟨st'.σ, st.loc⟩
        | none => False) : wpE c r (.comp e (.cons t it ifs .nil) own inner sc p) st k := by
  dsimp only [wpE]
  exact wpG1 h
end

section
variable {M : Model} {A : Around} {E : Value → Shared → Prop}
end

section
variable {c : Cx} {r : Nat} {N : Nm} {f : Addr} {fd : FuncData} {bd : MSs} {vs : Vis} {ps : List Nat} {nl dm : Nat}
/-- the outermost call, nothing said of the tokens -/
theorem TC_top0 (S : Std c N) (D : DefOk c N f fd bd vs ps nl dm) {xs : List V} {vals : List Value} {s : Shared} {A : Around} {R : Result → Shared → Prop}
    (hbind : bindArgs fd ⟨vals, []⟩ = pure ((ps.map N.sl).zip vals)) (hlen : ps.length = xs.length) (hr : Room (r + 1) A) (R0 : Rel c [] [] [] s) (hv : VReps c.C [] (Still s.heap []) xs vals)
    (hk : ∀ i ∈ vs.stores, i ∈ vs.slots) (h : wpSs c r bd ⟨[], loc0 nl ps xs⟩ (retK fun v _ => v = .d (.bool true)))
    (q : ∀ s', (∀ b o, c.s0.heap.get? b = some o → s'.heap.get? b = some o) → s'.os = c.s0.os → s'.gens = c.s0.gens → R (.ok (.ret (.bool true))) s') :
    codeAny (model c.prog c.w) A (.call (.ref f) ⟨vals, []⟩) R s := by
  obtain ⟨o, ho, hd⟩ := D.fo
  have base := R0.base
  refine codeAny_call_function (by have := hr.depth; omega) (base _ _ ho) hd D.co D.gen D.body (D.code.keeps base) ?_
  rw [hbind]
  refine wpAny_pure ?_
  rw [D.clos]
  refine withT (wpAny_newFunctionEnv_cells D.kind (fun y hy => ?_) fun env he s₂ x ht => ?_)
  · have hn : y.1 ∈ ps.map N.sl := (List.of_mem_zip (show (y.1, y.2) ∈ (ps.map N.sl).zip vals from hy)).1
    obtain ⟨i, hi, e⟩ := List.mem_map.mp hn
    rw [← e]
    rcases (D.slot i (D.pars.2 i hi).1).2.2 with ⟨_, h4⟩ | ⟨_, h4⟩
    · exact .inl h4
    · exact .inr ⟨h4, cells_have _ _ [] (.inl (lookup_mem h4))⟩
  · subst he
    obtain ⟨R2, fr⟩ := def_enter (A := A.deeper (newEnv fd.scope s.heap.objs.size fd.globals (cellsFrom (s.heap.objs.size + 1) fd.scope.names []) (fd.qualname ++ ".<locals>.") (some f) fd.code none fd.builtins)) D R0 hv hlen rfl x ht
    refine ⟨(S.ok.nolimit.keeps base).keeps x.toInCall.keep, codeAny_func ?_⟩
    have ok := def_fxOk (r := r) (av := []) (L := s.heap.objs.size) (qual := fd.qualname ++ ".<locals>.") (A := A.deeper (newEnv fd.scope s.heap.objs.size fd.globals (cellsFrom (s.heap.objs.size + 1) fd.scope.names []) (fd.qualname ++ ".<locals>.") (some f) fd.code none fd.builtins)) D
      ⟨hr.handled, by show A.depth + 1 + r < _; have := hr.depth; omega, by show A.units + 3 + 20 * r + 200 < _; have := hr.units; omega⟩ x.apart x.above
    have kd : Kinds N.sl vs (newEnv fd.scope s.heap.objs.size fd.globals (cellsFrom (s.heap.objs.size + 1) fd.scope.names []) (fd.qualname ++ ".<locals>.") (some f) fd.code none fd.builtins) := by
      refine ⟨by show (if fd.scope.kind.isAnnotationScope = true then _ else fd.scope.kind) = _; rw [D.kind]; rfl, fun i hi => ?_⟩
      show (fd.scope.names.lookup (N.sl i) == some NameKind.local) = _
      rcases (D.slot i (hk i hi)).2.2 with ⟨h3, h4⟩ | ⟨h3, h4⟩
      · rw [h4]; simp [h3]
      · rw [h4]; simp [h3]
    refine sndSs S bd ok rfl kd D.wf h [] s₂ _ _ R2 fun fl st' ρ' fv s' R' N' f' hk' => ?_
    have fin := q s' R'.rel.base R'.rel.os R'.rel.gens
    cases fl with
    | next => cases hk'
    | ret v =>
      obtain ⟨val, rfl, rv⟩ := f'
      have hk' : v = .d (.bool true) := hk'
      subst hk'
      cases rv
      exact fin
    | brk => exact hk'.elim
    | cont => exact hk'.elim
end

namespace R
theorem b1 {st : St} {k : KV} {a b : Int} : binS .Add (.d (.int a)) (.d (.int b)) st k = (k (.d (.int (a + b))) st) := rfl
theorem b2 {st : St} {k : KV} {a b : Int} : binS .Sub (.d (.int a)) (.d (.int b)) st k = (k (.d (.int (a - b))) st) := rfl
theorem b3 {st : St} {k : KV} {a b : Int} : binS .Mult (.d (.int a)) (.d (.int b)) st k = (IntMulOk a b ∧ k (.d (.int (a * b))) st) := rfl
theorem b4 {st : St} {k : KV} {a b : Int} : binS .FloorDiv (.d (.int a)) (.d (.int b)) st k = (b ≠ 0 ∧ Builtin.divisionGoesByPylong a b = false ∧ k (.d (.int (a.fdiv b))) st) := rfl
theorem b5 {st : St} {k : KV} {a b : Int} : binS .Mod (.d (.int a)) (.d (.int b)) st k = (b ≠ 0 ∧ k (.d (.int (a.fmod b))) st) := rfl
theorem b6 {st : St} {k : KV} {x y : Str} : binS .Add (.d (.str x)) (.d (.str y)) st k = (x.length + y.length ≤ sizeLine ∧ k (.d (.str (x ++ y))) st) := rfl
theorem b7 {st : St} {k : KV} {x : Str} {b : Int} : binS .Mult (.d (.str x)) (.d (.int b)) st k = (b.toNat * x.length ≤ 1000 ∧ (-1000 ≤ b ∧ b ≤ 1000) ∧ k (.d (.str ⟨(List.replicate b.toNat x.cps.toList).flatten.toArray⟩)) st) := rfl
theorem b8 {st : St} {k : KV} {ds : List D} {b : Int} : binS .Mult (.d (.list ds)) (.d (.int b)) st k = (b.toNat * ds.length ≤ 1000 ∧ (-1000 ≤ b ∧ b ≤ 1000) ∧ newL st (List.replicate b.toNat ds).flatten k) := rfl
theorem b9ll {st : St} {k : KV} {i : Nat} {j : Nat} : binS .Add (.lst i) (.lst j) st k = (match listOf st (.lst i), listOf st (.lst j) with | some ds, some es => ds.length + es.length ≤ sizeLine ∧ newL st (ds ++ es) k | _, _ => False) := rfl
theorem b9lf {st : St} {k : KV} {i : Nat} {ys : List D} : binS .Add (.lst i) (.d (.list ys)) st k = (match listOf st (.lst i), listOf st (.d (.list ys)) with | some ds, some es => ds.length + es.length ≤ sizeLine ∧ newL st (ds ++ es) k | _, _ => False) := rfl
theorem b9fl {st : St} {k : KV} {xs : List D} {j : Nat} : binS .Add (.d (.list xs)) (.lst j) st k = (match listOf st (.d (.list xs)), listOf st (.lst j) with | some ds, some es => ds.length + es.length ≤ sizeLine ∧ newL st (ds ++ es) k | _, _ => False) := rfl
theorem b9ff {st : St} {k : KV} {xs : List D} {ys : List D} : binS .Add (.d (.list xs)) (.d (.list ys)) st k = (match listOf st (.d (.list xs)), listOf st (.d (.list ys)) with | some ds, some es => ds.length + es.length ≤ sizeLine ∧ newL st (ds ++ es) k | _, _ => False) := rfl
theorem lol {st : St} {i : Nat} : listOf st (.lst i) = (match st.σ[i]? with | some (.lst ds) => some ds | _ => none) := rfl
theorem lof {st : St} {xs : List D} : listOf st (.d (.list xs)) = (some xs) := rfl
theorem ag1 {st : St} {k : KV} {a b : Int} : augS .Add (.d (.int a)) (.d (.int b)) st k = (k (.d (.int (a + b))) st) := rfl
theorem ag2 {st : St} {k : KV} {a b : Int} : augS .Sub (.d (.int a)) (.d (.int b)) st k = (k (.d (.int (a - b))) st) := rfl
theorem un1 {st : St} {k : KV} {a : Int} : unS .USub (.d (.int a)) st k = (k (.d (.int (-a))) st) := rfl
theorem tr1 {st : St} {k : KB} {t : Bool} : truthS (.d (.bool t)) st k = (k t st) := rfl
theorem tr2 {st : St} {k : KB} {a : Int} : truthS (.d (.int a)) st k = (k (a != 0) st) := rfl
theorem tr3 {st : St} {k : KB} {x : Str} : truthS (.d (.str x)) st k = (x.length < 2 ^ 62 ∧ k (!x.cps.isEmpty) st) := rfl
theorem tr4 {st : St} {k : KB} : truthS (.d .none) st k = (k false st) := rfl
theorem eq1 {st : St} {k : KB} {a b : Int} : eqS (.d (.int a)) (.d (.int b)) st k = (k (a == b) st) := rfl
theorem eq2 {st : St} {k : KB} {t u : Bool} : eqS (.d (.bool t)) (.d (.bool u)) st k = (k (t == u) st) := rfl
theorem eq3 {st : St} {k : KB} {x y : Str} : eqS (.d (.str x)) (.d (.str y)) st k = (k (x == y) st) := rfl
theorem eq4 {st : St} {k : KB} {xs ys : List D} : eqS (.d (.list xs)) (.d (.list ys)) st k = ((D.list xs).isData = true ∧ (D.list ys).isData = true ∧ SeqAt.shaped (toPy (D.list xs)) = true ∧ SeqAt.shaped (toPy (D.list ys)) = true ∧ k (PyData.eqv (toPy (D.list xs)) (toPy (D.list ys))) st) := rfl
theorem eq5 {st : St} {k : KB} {xs ys : List D} : eqS (.d (.tup xs)) (.d (.tup ys)) st k = ((D.tup xs).isData = true ∧ (D.tup ys).isData = true ∧ SeqAt.shaped (toPy (D.tup xs)) = true ∧ SeqAt.shaped (toPy (D.tup ys)) = true ∧ k (PyData.eqv (toPy (D.tup xs)) (toPy (D.tup ys))) st) := rfl
theorem cm1 {st : St} {k : KV} {a b : Int} : cmpS .Lt (.d (.int a)) (.d (.int b)) st k = (k (.d (.bool (decide (a < b)))) st) := rfl
theorem cm2 {st : St} {k : KV} {a b : Int} : cmpS .LtE (.d (.int a)) (.d (.int b)) st k = (k (.d (.bool (decide (a ≤ b)))) st) := rfl
theorem cm3 {st : St} {k : KV} {a b : Int} : cmpS .Gt (.d (.int a)) (.d (.int b)) st k = (k (.d (.bool (decide (a > b)))) st) := rfl
theorem cm4 {st : St} {k : KV} {a b : Int} : cmpS .GtE (.d (.int a)) (.d (.int b)) st k = (k (.d (.bool (decide (a ≥ b)))) st) := rfl
theorem cm5 {st : St} {k : KV} {x y : V} : cmpS .Eq x y st k = (eqS x y st fun b st => k (.d (.bool b)) st) := rfl
theorem cm6 {st : St} {k : KV} {x y : V} : cmpS .NotEq x y st k = (eqS x y st fun b st => k (.d (.bool (!b))) st) := rfl
theorem cm7 {st : St} {k : KV} : cmpS .Is (.d .none) (.d .none) st k = (k (.d (.bool true)) st) := rfl
theorem cm8 {st : St} {k : KV} {z : Str} : cmpS .Is (.d (.str z)) (.d .none) st k = (k (.d (.bool false)) st) := rfl
theorem cm9 {st : St} {k : KV} {i : Nat} : cmpS .Is (.lst i) (.d .none) st k = (k (.d (.bool false)) st) := rfl
theorem cm10 {st : St} {k : KV} : cmpS .IsNot (.d .none) (.d .none) st k = (k (.d (.bool false)) st) := rfl
theorem cm11 {st : St} {k : KV} {z : Str} : cmpS .IsNot (.d (.str z)) (.d .none) st k = (k (.d (.bool true)) st) := rfl
theorem cm12 {st : St} {k : KV} {i : Nat} : cmpS .IsNot (.lst i) (.d .none) st k = (k (.d (.bool true)) st) := rfl
theorem cm13 {st : St} {k : KV} {u v : String} : cmpS .Is (.ty u) (.ty v) st k = (k (.d (.bool (u == v))) st) := rfl
theorem cm14 {st : St} {k : KV} {u v : String} : cmpS .IsNot (.ty u) (.ty v) st k = (k (.d (.bool (u != v))) st) := rfl
theorem sb1 {st : St} {k : KV} {ds : List D} {a : Int} : subS (.d (.list ds)) (.d (.int a)) st k = (∃ d, atIdx ds a = some d ∧ ds.length < 2 ^ 62 ∧ k (.d d) st) := rfl
theorem sb2 {st : St} {k : KV} {ds : List D} {a : Int} : subS (.d (.tup ds)) (.d (.int a)) st k = (∃ d, atIdx ds a = some d ∧ ds.length < 2 ^ 62 ∧ k (.d d) st) := rfl
theorem sb3 {st : St} {k : KV} {x : Str} {a : Int} : subS (.d (.str x)) (.d (.int a)) st k = (∃ ch, atIdx x.cps.toList a = some ch ∧ x.length < 2 ^ 62 ∧ k (.d (.str ⟨#[ch]⟩)) st) := rfl
theorem sb4 {st : St} {k : KV} {j : Nat} {a : Int} : subS (.lst j) (.d (.int a)) st k = (match st.σ[j]? with | some (.lst ds) => ∃ d, atIdx ds a = some d ∧ ds.length < 2 ^ 62 ∧ k (.d d) st | _ => False) := rfl
theorem pa1 : partOf (.d .none) = (some none) := rfl
theorem pa2 {a : Int} : partOf (.d (.int a)) = (some (some a)) := rfl
theorem sl1nn {st : St} {k : KV} {ds : List D} : slcS (.d (.list ds)) (.d .none) (.d .none) (.d .none) st k = (ds.length < 2 ^ 23 ∧ k (.d (.list (cutOf ds (none) (none)))) st) := rfl
theorem sl2nn {st : St} {k : KV} {ds : List D} {z : Int} : slcS (.d (.list ds)) (.d .none) (.d .none) (.d (.int z)) st k = (ds.length < 2 ^ 23 ∧ z ≠ 0 ∧ k (.d (.list (pickL ds (none) (none) (some z)))) st) := rfl
theorem sl3nn {st : St} {k : KV} {t : Str} : slcS (.d (.str t)) (.d .none) (.d .none) (.d .none) st k = (t.length < 2 ^ 23 ∧ k (.d (.str ⟨(cutOf t.cps.toList (none) (none)).toArray⟩)) st) := rfl
theorem sl1in {st : St} {k : KV} {ds : List D} {a : Int} : slcS (.d (.list ds)) (.d (.int a)) (.d .none) (.d .none) st k = (ds.length < 2 ^ 23 ∧ k (.d (.list (cutOf ds (some a) (none)))) st) := rfl
theorem sl2in {st : St} {k : KV} {ds : List D} {z : Int} {a : Int} : slcS (.d (.list ds)) (.d (.int a)) (.d .none) (.d (.int z)) st k = (ds.length < 2 ^ 23 ∧ z ≠ 0 ∧ k (.d (.list (pickL ds (some a) (none) (some z)))) st) := rfl
theorem sl3in {st : St} {k : KV} {t : Str} {a : Int} : slcS (.d (.str t)) (.d (.int a)) (.d .none) (.d .none) st k = (t.length < 2 ^ 23 ∧ k (.d (.str ⟨(cutOf t.cps.toList (some a) (none)).toArray⟩)) st) := rfl
theorem sl1ni {st : St} {k : KV} {ds : List D} {b : Int} : slcS (.d (.list ds)) (.d .none) (.d (.int b)) (.d .none) st k = (ds.length < 2 ^ 23 ∧ k (.d (.list (cutOf ds (none) (some b)))) st) := rfl
theorem sl2ni {st : St} {k : KV} {ds : List D} {z : Int} {b : Int} : slcS (.d (.list ds)) (.d .none) (.d (.int b)) (.d (.int z)) st k = (ds.length < 2 ^ 23 ∧ z ≠ 0 ∧ k (.d (.list (pickL ds (none) (some b) (some z)))) st) := rfl
theorem sl3ni {st : St} {k : KV} {t : Str} {b : Int} : slcS (.d (.str t)) (.d .none) (.d (.int b)) (.d .none) st k = (t.length < 2 ^ 23 ∧ k (.d (.str ⟨(cutOf t.cps.toList (none) (some b)).toArray⟩)) st) := rfl
theorem sl1ii {st : St} {k : KV} {ds : List D} {a : Int} {b : Int} : slcS (.d (.list ds)) (.d (.int a)) (.d (.int b)) (.d .none) st k = (ds.length < 2 ^ 23 ∧ k (.d (.list (cutOf ds (some a) (some b)))) st) := rfl
theorem sl2ii {st : St} {k : KV} {ds : List D} {z : Int} {a : Int} {b : Int} : slcS (.d (.list ds)) (.d (.int a)) (.d (.int b)) (.d (.int z)) st k = (ds.length < 2 ^ 23 ∧ z ≠ 0 ∧ k (.d (.list (pickL ds (some a) (some b) (some z)))) st) := rfl
theorem sl3ii {st : St} {k : KV} {t : Str} {a : Int} {b : Int} : slcS (.d (.str t)) (.d (.int a)) (.d (.int b)) (.d .none) st k = (t.length < 2 ^ 23 ∧ k (.d (.str ⟨(cutOf t.cps.toList (some a) (some b)).toArray⟩)) st) := rfl
theorem at1 {st : St} {k : KV} {ds : List D} {n : Nat} : attS (.d (.ws ds)) n st k = (∃ d, ds[n]? = some d ∧ k (.d d) st) := rfl
theorem at2 {st : St} {k : KV} {i n : Nat} : attS (.inst i) n st k = (match st.σ[i]? with | some (.inst _ ns vs) => (∀ i ∈ ns, i < 6) ∧ n < 6 ∧ ∃ v, (ns.zip vs).lookup n = some v ∧ k v st | _ => False) := rfl
theorem bi1 {st : St} {k : KV} {x : Str} : biS .len [.d (.str x)] st k = (x.length < 2 ^ 62 ∧ k (.d (.int x.length)) st) := rfl
theorem bi2 {st : St} {k : KV} {ds : List D} : biS .len [.d (.list ds)] st k = (ds.length < 2 ^ 62 ∧ k (.d (.int ds.length)) st) := rfl
theorem bi3 {st : St} {k : KV} {ds : List D} : biS .len [.d (.tup ds)] st k = (ds.length < 2 ^ 62 ∧ k (.d (.int ds.length)) st) := rfl
theorem bi4 {st : St} {k : KV} {i : Nat} : biS .len [.lst i] st k = (match st.σ[i]? with | some (.lst ds) => ds.length < 2 ^ 62 ∧ k (.d (.int ds.length)) st | _ => False) := rfl
theorem bi5 {st : St} {k : KV} {a b : Int} : biS .max2 [.d (.int a), .d (.int b)] st k = (k (.d (.int (if b > a then b else a))) st) := rfl
theorem bi6 {st : St} {k : KV} {a b : Int} : biS .min2 [.d (.int a), .d (.int b)] st k = (k (.d (.int (if b < a then b else a))) st) := rfl
theorem bi10 {st : St} {k : KV} {ds : List D} : biS .sum [.d (.list ds)] st k = (∃ l, intsD ds = some l ∧ l.length < 2 ^ 20 ∧ k (.d (.int l.sum)) st) := rfl
theorem bi11 {st : St} {k : KV} {ds : List D} : biS .sum [.d (.tup ds)] st k = (∃ l, intsD ds = some l ∧ l.length < 2 ^ 20 ∧ k (.d (.int l.sum)) st) := rfl
theorem bi12 {st : St} {k : KV} {b : Int} : biS .range1 [.d (.int b)] st k = (k (.d (.rng 0 b 1)) st) := rfl
theorem bi13 {st : St} {k : KV} {a b : Int} : biS .range2 [.d (.int a), .d (.int b)] st k = (k (.d (.rng a b 1)) st) := rfl
theorem bi14 {st : St} {k : KV} {a b : Int} {z : Int} : biS .range3 [.d (.int a), .d (.int b), .d (.int z)] st k = (0 < z ∧ z < 1000000 ∧ k (.d (.rng a b z)) st) := rfl
theorem bi15 {st : St} {k : KV} {a b : Int} {z : Int} : biS .list [.d (.rng a b z)] st k = (small a ∧ small b ∧ 0 < z ∧ z < 1000000 ∧ rangeLen a b z ≤ 2 ^ 20 ∧ newL st ((rangeL a b z).map .int) k) := rfl
theorem bi17 {st : St} {k : KV} {i : Nat} : biS .tuple [.lst i] st k = (match st.σ[i]? with | some (.lst ds) => ds.length < 2 ^ 20 ∧ k (.d (.tup ds)) st | _ => False) := rfl
theorem bi18 {st : St} {k : KV} {x : Str} : biS .type [.d (.str x)] st k = (k (.ty "str") st) := rfl
theorem bi19 {st : St} {k : KV} {i : Nat} : biS .type [.lst i] st k = (match st.σ[i]? with | some (.lst _) => k (.ty "list") st | _ => False) := rfl
theorem bi20 {st : St} {k : KV} {ds : List D} : biS .sortedT [.d (.list ds)] st k = (∃ t0 t1 t2 t3 : T3, ds = [tup3 t0, tup3 t1, tup3 t2, tup3 t3] ∧ ∀ p ∈ perms4, (p.map (of4 t0 t1 t2 t3)).Pairwise le3 → k (.d (.list (p.map fun i => tup3 (of4 t0 t1 t2 t3 i)))) st) := rfl
theorem bm1 {st : St} {k : KV} {x : Str} : bmS .lower (.d (.str x)) [] st k = (tame x = true ∧ x.length ≤ 1000 ∧ k (.d (.str ⟨x.cps.map fun ch => if 65 ≤ ch ∧ ch ≤ 90 then ch + 32 else ch⟩)) st) := rfl
theorem bm3 {st : St} {k : KV} {x : Str} {v : V} : bmS .join (.d (.str x)) [v] st k = (∃ ds l, listOf st v = some ds ∧ strsD ds = some l ∧ (l.map (·.length)).sum + l.length * x.length ≤ 100000 ∧ l.length ≤ 10000 ∧ k (.d (.str (Str.join x l))) st) := rfl
theorem bm5 {st : St} {k : KV} {i : Nat} {x : D} : bmS .append (.lst i) [.d x] st k = (match st.σ[i]? with | some (.lst ds) => ds.length < 2 ^ 20 ∧ k (.d .none) ⟨st.σ.set i (.lst (ds ++ [x])), st.loc⟩ | _ => False) := rfl
theorem bm6 {st : St} {k : KV} {n : Bool} {q : Addr} {x : Str} : bmS .search (.pat n q) [.d (.str x)] st k = ((if n then shown x else tame x) = true ∧ x.length ≤ 100000 ∧ k (.d .none) st) := rfl
theorem ba1 {c : Cx} {st : St} {i : Nat} : bmAt c .append (.lst i) st = (∃ ds, st.σ[i]? = some (.lst ds)) := rfl
theorem ba2 {c : Cx} {st : St} {ds : List D} : bmAt c .index (.d (.list ds)) st = (True) := rfl
theorem ba3 {c : Cx} {st : St} {n : Bool} {q : Addr} : bmAt c .search (.pat n q) st = (∃ i x, c.g i = some (x, .pat n q)) := rfl
theorem ba4 {c : Cx} {st : St} {x : Str} : bmAt c .lower (.d (.str x)) st = (True) := rfl
theorem ba5 {c : Cx} {st : St} {x : Str} : bmAt c .count (.d (.str x)) st = (True) := rfl
theorem ba6 {c : Cx} {st : St} {x : Str} : bmAt c .join (.d (.str x)) st = (True) := rfl
theorem cl1 {c : Cx} {st : St} {ds : List D} : clsOf c st (.d (.ws ds)) = (some c.C) := rfl
theorem cl2 {c : Cx} {st : St} {i : Nat} : clsOf c st (.inst i) = (match st.σ[i]? with | some (.inst C _ _) => some C | _ => none) := rfl
theorem td1 {x : D} : V.toD (.d x) = (some x) := rfl
theorem td2 : toDs [] = (some []) := rfl
theorem td3 {x : D} {r : List V} : toDs (.d x :: r) = (match (some x : Option D), toDs r with | some d, some ds => some (d :: ds) | _, _ => none) := rfl
theorem it1 {st : St} {ds : List D} : itemsOf st (.d (.list ds)) = (some (ds.map .d, none)) := rfl
theorem it2 {st : St} {ds : List D} : itemsOf st (.d (.tup ds)) = (some (ds.map .d, none)) := rfl
theorem it3 {st : St} {a b z : Int} : itemsOf st (.d (.rng a b z)) = (if 0 < z then some ((rangeL a b z).map fun i => .d (.int i), none) else none) := rfl
theorem it4 {st : St} {x : Str} : itemsOf st (.d (.str x)) = (some (x.cps.toList.map fun ch => .d (.str ⟨#[ch]⟩), none)) := rfl
theorem it5 {st : St} {i : Nat} : itemsOf st (.lst i) = (match st.σ[i]? with | some (.lst ds) => some (ds.map .d, some (i, ds)) | _ => none) := rfl
theorem sa1 {st : St} {k : KF} {i n : Nat} {v : V} : satS (.inst i) n v st k = (match st.σ[i]? with | some (.inst C ns vs) => n ∉ ns ∧ n < 6 ∧ ns.length < 50 ∧ k .next ⟨st.σ.set i (.inst C (ns ++ [n]) (vs ++ [v])), st.loc⟩ | _ => False) := rfl
theorem ss1 {st : St} {k : KF} {i : Nat} {a : Int} {x : D} : ssubS (.lst i) (.d (.int a)) (.d x) st k = (match st.σ[i]? with | some (.lst ds) => 0 ≤ a ∧ a < ds.length ∧ ds.length < 2 ^ 62 ∧ k .next ⟨st.σ.set i (.lst (ds.set a.toNat x)), st.loc⟩ | _ => False) := rfl
end R

section
variable {c : Cx} {r : Nat}
theorem wpGw {W : St → KV → Prop} {t : MT} {it : ME} {ifs : MBs} {st : St} {k : KG}
    (h : ∀ B : V → St → List D → KG → Prop, (∀ x st acc (K : KG), (bindT t x st fun st => wpBs c r .And ifs st fun b st => (b = true → W st fun v st => match v.toD with
        | some d => acc.length < 2 ^ 20 ∧ K st (acc ++ [d])
        | none => False) ∧ (b = false → K st acc)) → B x st acc K) →
      wpE c r it st fun x st1 => match itemsOf st1 x with
        | some (xs, o) => loopG o B xs st1 [] k
        | none => False) : wpG c r (.cons t it ifs .nil) W st [] k := by
  dsimp only [wpG]
  exact h _ fun x st acc K h => h
theorem still_loc {o : Option (Nat × List D)} {σ : List MObj} {l l' : List (Option V)} (h : stillL o ⟨σ, l⟩) : stillL o ⟨σ, l'⟩ := by
  cases o with
  | none => trivial
  | some p => exact h
/-- what a clause's items give, each by itself, nothing changed -/
structure Maps (c : Cx) (r : Nat) (W : St → KV → Prop) (i : Nat) (σ : List MObj) (loc : List (Option V)) (x : V) (st1 : St) (out : List D) : Prop where
  st : st1 = ⟨σ, loc⟩
  ex : ∃ xs o, itemsOf ⟨σ, loc⟩ x = some (xs, o) ∧ stillL o ⟨σ, loc⟩ ∧ xs.length < 2 ^ 20 ∧ i < loc.length ∧ ∃ f : Nat → D, (∀ j x, xs[j]? = some x → ∀ K : KV, K (.d (f j)) ⟨σ, loc.set i (some x)⟩ → W ⟨σ, loc.set i (some x)⟩ K) ∧ out = (List.range xs.length).map f
theorem Maps.go {W : St → KV → Prop} {i : Nat} {tp : Pos} {σ : List MObj} {loc : List (Option V)} {x : V} {st1 : St} {out : List D} {k : KG} {B : V → St → List D → KG → Prop} (M : Maps c r W i σ loc x st1 out)
    (hB : ∀ x st acc (K : KG), (bindT (.nm i tp) x st fun st => wpBs c r .And .nil st fun b st => (b = true → W st fun v st => match v.toD with
        | some d => acc.length < 2 ^ 20 ∧ K st (acc ++ [d])
        | none => False) ∧ (b = false → K st acc)) → B x st acc K) (hk : ∀ st', st'.σ = σ → k st' out) :
    match itemsOf st1 x with
        | some (xs, o) => loopG o B xs st1 [] k
        | none => False := by
  obtain ⟨rfl, xs, o, h1, h2, h3, h4, f, h5, rfl⟩ := M
  rw [h1]
  refine loopG_inv (fun j st acc => st.σ = σ ∧ (st.loc = loc ∨ ∃ v, st.loc = loc.set i v) ∧ acc = (List.range j).map f ∧ j ≤ xs.length) (fun j st acc h => by cases st; cases h.1; exact still_loc h2) ?_ ⟨rfl, .inl rfl, rfl, Nat.zero_le _⟩ (fun st' acc' h => by rw [h.2.2.1]; exact hk st' h.1)
  intro j x st acc K ⟨e1, e2, e3, e4⟩ hx hK
  have hj : j < xs.length := (List.getElem?_eq_some_iff.mp hx).1
  refine hB x st acc K ?_
  have el : st.loc.set i (some x) = loc.set i (some x) := by
    rcases e2 with e2 | ⟨v, e2⟩
    · rw [e2]
    · rw [e2, List.set_set]
  have hl : i < st.loc.length := by
    rcases e2 with e2 | ⟨v, e2⟩
    · rw [e2]; exact h4
    · rw [e2, List.length_set]; exact h4
  refine ⟨hl, ?_⟩
  rw [el, e1]
  refine ⟨fun _ => ?_, fun e => by cases e⟩
  refine h5 j x hx _ ?_
  refine ⟨by rw [e3, List.length_map, List.length_range]; omega, hK _ _ ⟨rfl, .inr ⟨_, rfl⟩, ?_, hj⟩⟩
  rw [e3, List.range_succ, List.map_append]; rfl
theorem wpG_map {W : St → KV → Prop} {i : Nat} {tp : Pos} {it : ME} {σ : List MObj} {loc : List (Option V)} {k : KG}
    (h : wpE c r it ⟨σ, loc⟩ fun x st1 => ∃ out, Maps c r W i σ loc x st1 out ∧ ∀ st', st'.σ = σ → k st' out) : wpG c r (.cons (.nm i tp) it .nil .nil) W ⟨σ, loc⟩ [] k :=
  wpGw fun B hB => wpE_up it (fun v st' _ ⟨out, M, hk⟩ => M.go hB hk) h
/-- the same, some of the items picked -/
structure Picks (c : Cx) (r : Nat) (W : St → KV → Prop) (t : MB) (i : Nat) (σ : List MObj) (loc : List (Option V)) (x : V) (st1 : St) (out : List D) : Prop where
  st : st1 = ⟨σ, loc⟩
  ex : ∃ xs o, itemsOf ⟨σ, loc⟩ x = some (xs, o) ∧ stillL o ⟨σ, loc⟩ ∧ xs.length < 2 ^ 20 ∧ i < loc.length ∧ ∃ (q : Nat → Bool) (f : Nat → D), (∀ j x, xs[j]? = some x → ∀ K : KB, K (q j) ⟨σ, loc.set i (some x)⟩ → wpB c r t ⟨σ, loc.set i (some x)⟩ K) ∧
    (∀ j x, xs[j]? = some x → ∀ K : KV, K (.d (f j)) ⟨σ, loc.set i (some x)⟩ → W ⟨σ, loc.set i (some x)⟩ K) ∧ out = ((List.range xs.length).filter q).map f
theorem wpG_pick {W : St → KV → Prop} {t : MB} {i : Nat} {tp : Pos} {it : ME} {σ : List MObj} {loc : List (Option V)} {k : KG}
    (h : wpE c r it ⟨σ, loc⟩ fun x st1 => ∃ out, Picks c r W t i σ loc x st1 out ∧ ∀ st', st'.σ = σ → k st' out) : wpG c r (.cons (.nm i tp) it (.cons t .nil) .nil) W ⟨σ, loc⟩ [] k := by
  refine wpGw fun B hB => wpE_up it (fun v st' _ ⟨out, M, hk⟩ => ?_) h
  obtain ⟨rfl, xs, o, h1, h2, h3, h4, q, f, h5, h6, rfl⟩ := M
  try dsimp only
  rw [h1]
  refine loopG_inv (fun j st acc => st.σ = σ ∧ (st.loc = loc ∨ ∃ v, st.loc = loc.set i v) ∧ acc = ((List.range j).filter q).map f ∧ j ≤ xs.length) (fun j st acc h => by cases st; cases h.1; exact still_loc h2) ?_ ⟨rfl, .inl rfl, rfl, Nat.zero_le _⟩ (fun st' acc' h => by rw [h.2.2.1]; exact hk st' h.1)
  intro j x st acc K ⟨e1, e2, e3, e4⟩ hx hK
  have hj : j < xs.length := (List.getElem?_eq_some_iff.mp hx).1
  refine hB x st acc K ?_
  have el : st.loc.set i (some x) = loc.set i (some x) := by
    rcases e2 with e2 | ⟨v, e2⟩
    · rw [e2]
    · rw [e2, List.set_set]
  have hl : i < st.loc.length := by
    rcases e2 with e2 | ⟨v, e2⟩
    · rw [e2]; exact h4
    · rw [e2, List.length_set]; exact h4
  refine ⟨hl, ?_⟩
  rw [el, e1]
  dsimp only [wpBs]
  refine h5 j x hx _ ⟨fun e => ⟨fun _ => ?_, fun e => (by cases e)⟩, fun e => ⟨fun e' => (by cases e'), fun _ => ?_⟩⟩
  · refine h6 j x hx _ ⟨?_, hK _ _ ⟨rfl, .inr ⟨_, rfl⟩, ?_, hj⟩⟩
    · rw [e3, List.length_map]; exact Nat.lt_of_le_of_lt (List.length_filter_le _ _) (by rw [List.length_range]; omega)
    · rw [e3, List.range_succ, List.filter_append, List.map_append]; simp [e]
  · refine hK _ _ ⟨rfl, .inr ⟨_, rfl⟩, ?_, hj⟩
    rw [e3, List.range_succ, List.filter_append, List.map_append]; simp [e]

/-- two clauses, nothing changed -/
theorem wpG_two {W : St → KV → Prop} {i1 i2 : Nat} {tp1 tp2 : Pos} {it1 it2 : ME} {σ : List MObj} {loc : List (Option V)} {k : KG} (h1 : i1 < loc.length) (h2 : i2 < loc.length) (hne : i1 ≠ i2)
    (h : wpE c r it1 ⟨σ, loc⟩ fun x st1 => st1 = ⟨σ, loc⟩ ∧ ∃ xs, itemsOf ⟨σ, loc⟩ x = some (xs, none) ∧ xs.length ≤ 100 ∧ ∃ (n : Nat) (f : Nat → Nat → D), n ≤ 100 ∧
      (∀ j x, xs[j]? = some x → ∀ (o : Option V) (K : KV), (∀ v ys, (∀ l, itemsOf ⟨σ, l⟩ v = some (ys, none)) → ys.length = n →
          (∀ m y, ys[m]? = some y → ∀ K2 : KV, K2 (.d (f j m)) ⟨σ, (loc.set i1 (some x)).set i2 (some y)⟩ → W ⟨σ, (loc.set i1 (some x)).set i2 (some y)⟩ K2) → K v ⟨σ, (loc.set i2 o).set i1 (some x)⟩) →
        wpE c r it2 ⟨σ, (loc.set i2 o).set i1 (some x)⟩ K) ∧
      ∀ st', st'.σ = σ → k st' ((List.range xs.length).map fun j => (List.range n).map (f j)).flatten) :
    wpG c r (.cons (.nm i1 tp1) it1 .nil (.cons (.nm i2 tp2) it2 .nil .nil)) W ⟨σ, loc⟩ [] k := by
  dsimp only [wpG]
  refine wpE_up it1 (fun x st1 _ h => ?_) h
  obtain ⟨rfl, xs, a1, a2, n, f, a3, a4, hk⟩ := h
  try dsimp only
  rw [a1]
  dsimp only
  refine loopG_inv (fun j st acc => st.σ = σ ∧ (∃ o1 o2, st.loc = (loc.set i2 o2).set i1 o1) ∧ acc = ((List.range j).map fun j => (List.range n).map (f j)).flatten ∧ acc.length = j * n ∧ j ≤ xs.length) (fun j st acc h => trivial) ?_
    ⟨rfl, ⟨loc[i1], loc[i2], by rw [List.set_getElem_self, List.set_getElem_self]⟩, rfl, by simp, Nat.zero_le _⟩ (fun st' acc' h => by rw [h.2.2.1]; exact hk st' h.1)
  intro j x st acc K ⟨e1, ⟨o1, o2, e2⟩, e3, e4, e5⟩ hx hK
  have hj : j < xs.length := (List.getElem?_eq_some_iff.mp hx).1
  refine ⟨by rw [e2]; simpa using h1, ?_⟩
  dsimp only [wpBs]
  refine ⟨fun _ => ?_, fun e => by cases e⟩
  rw [e2, List.set_set, e1]
  refine a4 j x hx o2 _ fun v ys b1 b2 b3 => ?_
  rw [b1]
  dsimp only
  have acc_le : acc.length ≤ 10000 := by rw [e4]; exact Nat.mul_le_mul (Nat.le_trans e5 a2) a3
  refine loopG_inv (fun m st acc2 => st.σ = σ ∧ (∃ o2, st.loc = (loc.set i1 (some x)).set i2 o2) ∧ acc2 = acc ++ (List.range m).map (f j) ∧ m ≤ n) (fun m st acc h => trivial) ?_ ⟨rfl, ⟨o2, List.set_comm _ _ (Ne.symm hne)⟩, by simp, Nat.zero_le _⟩ (fun st' acc' h => ?_)
  · intro m y st2 acc2 K2 ⟨c1, ⟨o3, c2⟩, c3, c4⟩ hy hK2
    have hm : m < n := by rw [← b2]; exact (List.getElem?_eq_some_iff.mp hy).1
    refine ⟨by rw [c2]; simpa using h2, ?_⟩
    dsimp only [wpBs]
    refine ⟨fun _ => ?_, fun e => by cases e⟩
    rw [c2, List.set_set, c1]
    refine b3 m y hy _ ⟨?_, hK2 _ _ ⟨rfl, ⟨_, rfl⟩, ?_, hm⟩⟩
    · rw [c3, List.length_append, List.length_map, List.length_range]; omega
    · rw [c3, List.range_succ, List.map_append, List.append_assoc]; rfl
  · obtain ⟨c1, ⟨o3, c2⟩, c3, c4⟩ := h
    refine hK _ _ ⟨c1, ⟨some x, o3, by rw [c2]; exact List.set_comm _ _ hne⟩, ?_, ?_, hj⟩
    · rw [c3, b2, e3, List.range_succ, List.map_append, List.flatten_append]; simp
    · rw [c3, b2, List.length_append, e4, List.length_map, List.length_range, Nat.succ_mul]
end


noncomputable def low (ch : Nat) : Nat := if 65 ≤ ch ∧ ch ≤ 90 then ch + 32 else ch
noncomputable def subC (a b : Nat) : Nat := if a = b then 0 else if low a = low b then 1 else 2
theorem subC_le {a b : Nat} : subC a b ≤ 2 := by
  unfold subC
  split
  · omega
  · split
    · omega
    · omega
theorem subC_self {a : Nat} : subC a a = 0 := by unfold subC; simp
theorem subC_sym {a b : Nat} : subC a b = subC b a := by
  unfold subC
  by_cases h : a = b
  · subst h; rfl
  · have h' : ¬ b = a := fun e => h e.symm
    simp only [h, h', if_false]
    by_cases g : low a = low b
    · simp only [g, if_true]
    · have g' : ¬ low b = low a := fun e => g e.symm
      simp only [g, g', if_false]

/-- the distance, from the front -/
noncomputable def Dx (x : Nat) (p : List Nat → Nat) (n : Nat) : List Nat → Nat
  | [] => 2 * n
  | y :: b => min (min (p b + subC x y) (p (y :: b) + 2)) (Dx x p n b + 2)
noncomputable def dist : List Nat → List Nat → Nat
  | [] => fun b => 2 * b.length
  | x :: a => Dx x (dist a) (a.length + 1)
theorem dist_nil {b : List Nat} : dist [] b = 2 * b.length := rfl
theorem dist_cons_nil {x : Nat} {a : List Nat} : dist (x :: a) [] = 2 * (a.length + 1) := rfl
theorem dist_cons {x y : Nat} {a b : List Nat} : dist (x :: a) (y :: b) = min (min (dist a b + subC x y) (dist a (y :: b) + 2)) (dist (x :: a) b + 2) := rfl
theorem dist_nil_r : ∀ {a : List Nat}, dist a [] = 2 * a.length
  | [] => rfl
  | _ :: _ => rfl
theorem dist_sym : ∀ {a b : List Nat}, dist a b = dist b a
  | [], b => by rw [dist_nil, dist_nil_r]
  | x :: a, [] => by rw [dist_nil, dist_nil_r]
  | x :: a, y :: b => by
    rw [dist_cons, dist_cons, @dist_sym a b, @dist_sym a (y :: b), @dist_sym (x :: a) b, @subC_sym x y, Nat.min_assoc, Nat.min_assoc]
    exact congrArg _ (Nat.min_comm _ _)
termination_by a b => a.length + b.length
theorem dist_l1 {x : Nat} {a b : List Nat} : dist (x :: a) b ≤ dist a b + 2 := by
  cases b with
  | nil => rw [dist_cons_nil, dist_nil_r]; exact Nat.le_refl _
  | cons y b => rw [dist_cons]; exact Nat.le_trans (Nat.min_le_left _ _) (Nat.min_le_right _ _)
theorem dist_r1 {y : Nat} {a b : List Nat} : dist a (y :: b) ≤ dist a b + 2 := by rw [@dist_sym a, @dist_sym a]; exact dist_l1
theorem dist_l2 {x : Nat} {a : List Nat} : ∀ {b : List Nat}, dist a b ≤ dist (x :: a) b + 2
  | [] => by rw [dist_cons_nil, dist_nil_r]; omega
  | y :: b => by
    have h1 := @dist_r1 y a b
    rw [dist_cons, ← Nat.sub_le_iff_le_add]
    exact Nat.le_min.mpr ⟨Nat.le_min.mpr ⟨Nat.sub_le_iff_le_add.mpr (Nat.le_trans h1 (Nat.add_le_add_right (Nat.le_add_right _ _) 2)), Nat.sub_le_iff_le_add.mpr (Nat.le_add_right_of_le (Nat.le_add_right _ 2))⟩, Nat.sub_le_iff_le_add.mpr (Nat.le_trans h1 (Nat.add_le_add_right (@dist_l2 x a b) 2))⟩
theorem dist_r2 {y : Nat} {a b : List Nat} : dist a b ≤ dist a (y :: b) + 2 := by rw [@dist_sym a, @dist_sym a]; exact dist_l2
theorem dist_front {x : Nat} {a b : List Nat} : dist (x :: a) (x :: b) = dist a b := by
  rw [dist_cons, subC_self]
  rw [Nat.min_assoc]
  exact Nat.min_eq_left (Nat.le_min.mpr ⟨@dist_r2 x a b, @dist_l2 x a b⟩)
theorem dist_fronts : ∀ {c a b : List Nat}, dist (c ++ a) (c ++ b) = dist a b
  | [], a, b => rfl
  | x :: c, a, b => by rw [List.cons_append, List.cons_append, dist_front, dist_fronts]
theorem dist_end0 {x : Nat} : ∀ {b : List Nat}, dist [x] (b ++ [x]) = dist [] b
  | [] => dist_front
  | y :: b => by
    rw [List.cons_append, dist_cons, @dist_end0 x b, dist_nil, dist_nil]
    refine (Nat.min_eq_right (Nat.le_min.mpr ⟨?_, ?_⟩)).trans rfl
    · rw [List.length_append]; exact Nat.le_add_right (2 * (b.length + 1)) _
    · exact Nat.add_le_add_right (Nat.mul_le_mul_left 2 (Nat.le_trans (by rw [List.length_append]; exact Nat.le_add_right _ _) (Nat.le_succ _))) 2
theorem dist_end {x : Nat} : ∀ {a b : List Nat}, dist (a ++ [x]) (b ++ [x]) = dist a b
  | [], b => dist_end0
  | z :: a, [] => by rw [dist_sym, @dist_sym (z :: a)]; exact dist_end0 (b := z :: a)
  | z :: a, y :: b => by
    have h1 := @dist_end x a b
    have h2 := @dist_end x a (y :: b)
    have h3 := @dist_end x (z :: a) b
    rw [List.cons_append] at h2 h3
    rw [List.cons_append, List.cons_append, dist_cons, dist_cons, h1, h2, h3]
termination_by a b => a.length + b.length
theorem dist_ends {a b : List Nat} : ∀ {c : List Nat}, dist (a ++ c) (b ++ c) = dist a b := by
  intro c
  induction c generalizing a b with
  | nil => simp
  | cons x c ih =>
    have := @ih (a ++ [x]) (b ++ [x])
    simp only [List.append_assoc, List.singleton_append] at this
    rw [this, dist_end]
theorem dist_len : ∀ {a b : List Nat}, 2 * a.length ≤ dist a b + 2 * b.length
  | [], b => by simp
  | x :: a, [] => by rw [dist_cons_nil]; simp
  | x :: a, y :: b => by
    have h1 := @dist_len a b
    have h2 := @dist_len a (y :: b)
    have h3 := @dist_len (x :: a) b
    rw [dist_cons, ← Nat.sub_le_iff_le_add]
    exact Nat.le_min.mpr ⟨Nat.le_min.mpr ⟨Nat.sub_le_iff_le_add.mpr (Nat.le_trans (Nat.add_le_add_right h1 2) (by show _ + 2 * b.length + 2 ≤ _ + (2 * b.length + 2); omega)), Nat.sub_le_iff_le_add.mpr (Nat.le_trans (Nat.add_le_add_right h2 2) (by omega))⟩, Nat.sub_le_iff_le_add.mpr (Nat.le_trans h3 (by show _ ≤ _ + 2 + (2 * b.length + 2); omega))⟩
termination_by a b => a.length + b.length
/-- some row's entry is no greater -/
theorem dist_path {b1 : List Nat} : ∀ {a b2 : List Nat}, ∃ u a1, a = u ++ a1 ∧ dist a1 b1 ≤ dist a (b2 ++ b1)
  | a, [] => ⟨[], a, rfl, Nat.le_refl _⟩
  | [], y :: b2 => ⟨[], [], rfl, by rw [dist_nil, dist_nil]; simp only [List.cons_append, List.length_cons, List.length_append]; omega⟩
  | x :: a, y :: b2 => by
    obtain ⟨u1, v1, e1, h1⟩ := @dist_path b1 a b2
    obtain ⟨u2, v2, e2, h2⟩ := @dist_path b1 a (y :: b2)
    obtain ⟨u3, v3, e3, h3⟩ := @dist_path b1 (x :: a) b2
    rw [List.cons_append] at h2 ⊢
    rw [dist_cons]
    have mm : ∀ m n : Nat, min m n = m ∨ min m n = n := fun m n => (Nat.le_total m n).imp Nat.min_eq_left Nat.min_eq_right
    rcases mm (min (dist a (b2 ++ b1) + subC x y) (dist a (y :: (b2 ++ b1)) + 2)) (dist (x :: a) (b2 ++ b1) + 2) with c | c <;> rw [c]
    · rcases mm (dist a (b2 ++ b1) + subC x y) (dist a (y :: (b2 ++ b1)) + 2) with c | c <;> rw [c]
      · exact ⟨x :: u1, v1, by rw [e1]; rfl, Nat.le_trans h1 (Nat.le_add_right _ _)⟩
      · exact ⟨x :: u2, v2, by rw [e2]; rfl, Nat.le_trans h2 (Nat.le_add_right _ _)⟩
    · exact ⟨u3, v3, e3, Nat.le_trans h3 (Nat.le_add_right _ _)⟩
termination_by a b2 => a.length + b2.length

/-- the distance, from the back: what the table holds -/
noncomputable def lev (a b : List Nat) : Nat := dist a.reverse b.reverse
theorem lev_sym {a b : List Nat} : lev a b = lev b a := dist_sym
theorem lev_self {a : List Nat} : lev a a = 0 := by have := @dist_fronts a.reverse [] []; simpa [lev, dist_nil] using this
theorem lev_fronts {c a b : List Nat} : lev (c ++ a) (c ++ b) = lev a b := by unfold lev; rw [List.reverse_append, List.reverse_append, dist_ends]
theorem lev_ends {c a b : List Nat} : lev (a ++ c) (b ++ c) = lev a b := by unfold lev; rw [List.reverse_append, List.reverse_append, dist_fronts]
theorem lev_nil {b : List Nat} : lev [] b = 2 * b.length := by unfold lev; rw [List.reverse_nil, dist_nil, List.length_reverse]
theorem lev_nil_r {a : List Nat} : lev a [] = 2 * a.length := by rw [lev_sym, lev_nil]
theorem lev_snoc {a b : List Nat} {x y : Nat} : lev (a ++ [x]) (b ++ [y]) = min (min (lev a b + subC x y) (lev a (b ++ [y]) + 2)) (lev (a ++ [x]) b + 2) := by
  unfold lev
  simp only [List.reverse_append, List.reverse_cons, List.reverse_nil, List.nil_append, List.singleton_append]
  rw [dist_cons]
theorem lev_len {a b : List Nat} : 2 * a.length ≤ lev a b + 2 * b.length := by have := @dist_len a.reverse b.reverse; simpa [lev] using this

/-- the table -/
noncomputable def tbl (a b : List Nat) (i j : Nat) : Nat := lev (a.take j) (b.take i)
theorem take_snoc {a : List Nat} {j x : Nat} (h : a[j]? = some x) : a.take (j + 1) = a.take j ++ [x] := by
  rw [List.take_add_one, h]; rfl
theorem tbl_zero {a b : List Nat} {i : Nat} (h : i ≤ b.length) : tbl a b i 0 = 2 * i := by unfold tbl; rw [List.take_zero, lev_nil, List.length_take]; omega
theorem tbl_top {a b : List Nat} {j : Nat} (h : j ≤ a.length) : tbl a b 0 j = 2 * j := by unfold tbl; rw [List.take_zero, lev_nil_r, List.length_take]; omega
theorem tbl_step {a b : List Nat} {i j x y : Nat} (hx : a[j]? = some x) (hy : b[i]? = some y) : tbl a b (i + 1) (j + 1) = min (min (tbl a b i j + subC y x) (tbl a b (i + 1) j + 2)) (tbl a b i (j + 1) + 2) := by
  unfold tbl
  rw [take_snoc hx, take_snoc hy, lev_snoc, @subC_sym y x]
theorem min_drop {p q z : Nat} (h : z ≤ p) : min (min p q) z = min q z := by rw [Nat.min_comm p, Nat.min_assoc, Nat.min_eq_right h]
theorem tbl_step1 {a b : List Nat} {i x y : Nat} (hx : a[0]? = some x) (hy : b[i]? = some y) : tbl a b (i + 1) 1 = min (min (2 * i) (tbl a b i 1) + 2) (2 * i + subC y x) := by
  have hi : i < b.length := (List.getElem?_eq_some_iff.mp hy).1
  have h := tbl_step (j := 0) hx hy
  rw [tbl_zero (by omega), tbl_zero (by omega)] at h
  simp only [Nat.zero_add] at h
  rw [h, Nat.min_assoc, Nat.min_comm, ← Nat.add_min_add_right]
  have e := Nat.add_le_add_left (@subC_le y x) (2 * i)
  rw [min_drop (p := 2 * (i + 1) + 2) (Nat.le_trans e (Nat.le_add_right _ 2)), min_drop e]
/-- a row's least entry is no more than the distance -/
theorem tbl_min {a b : List Nat} {i : Nat} (hi : 1 ≤ i) (hb : i ≤ b.length) (ha : 1 ≤ a.length) : ∃ j, 1 ≤ j ∧ j ≤ a.length ∧ tbl a b i j ≤ lev a b := by
  obtain ⟨u, v, e, h⟩ := @dist_path (b.take i).reverse a.reverse (b.drop i).reverse
  rw [← List.reverse_append, List.take_append_drop] at h
  have hv : v = (a.take v.length).reverse := by
    have : a = v.reverse ++ u.reverse := by rw [← List.reverse_append, ← e, List.reverse_reverse]
    rw [this, List.take_left' (by simp), List.reverse_reverse]
  have hl : v.length ≤ a.length := by have := congrArg List.length e; simp at this; omega
  have h' : tbl a b i v.length ≤ lev a b := by unfold tbl lev; rw [← hv]; exact h
  by_cases h0 : v.length = 0
  · refine ⟨1, Nat.le_refl _, ha, ?_⟩
    rw [h0, tbl_zero hb] at h'
    obtain ⟨i', rfl⟩ : ∃ i', i = i' + 1 := ⟨i - 1, by omega⟩
    have hx : a[0]? = some a[0] := List.getElem?_eq_getElem ha
    have hy : b[i']? = some b[i'] := List.getElem?_eq_getElem (by omega)
    have := tbl_step1 hx hy
    have h2 := @subC_le b[i'] a[0]
    omega
  · exact ⟨v.length, by omega, hl, h'⟩


/-- a Whitespace: the counts, the blanks behind, the signs, the tabs -/
structure WS where
  c : List Nat
  b : Nat
  n : Nat
  nt : Nat
noncomputable def bump (c : List Nat) (b : Nat) : List Nat := let d := if b ≥ c.length then c ++ List.replicate (b - c.length + 1) 0 else c
  d.set b (d.getD b 0 + 1)
noncomputable def isB (ch : Nat) : Bool := ch == 32 || ch == 9
noncomputable def wsStep (s : WS) (ch : Nat) : WS := if ch = 32 then ⟨s.c, s.b + 1, s.n + 1, s.nt⟩ else ⟨bump s.c s.b, 0, s.n + 1, s.nt + 1⟩
noncomputable def wsRun (l : List Nat) : WS := l.foldl wsStep ⟨[], 0, 0, 0⟩
noncomputable def wsOf (l : List Nat) : WS := wsRun (l.takeWhile isB)
noncomputable def intsOf (c : List Nat) : List D := c.map fun (x : Nat) => D.int (x : Int)
noncomputable def wsD (l : List Nat) : List D := [.str ⟨l.toArray⟩, .int (wsOf l).n, .int (wsOf l).nt, .tup [.tup (intsOf (wsOf l).c), .int (wsOf l).b], .bool (decide ((wsOf l).c.length ≤ 1))]

theorem wsRun_snoc {l : List Nat} {ch : Nat} : wsRun (l ++ [ch]) = wsStep (wsRun l) ch := by unfold wsRun; rw [List.foldl_append]; rfl
theorem bump_len {c : List Nat} {b : Nat} : (bump c b).length ≤ max c.length (b + 1) := by
  unfold bump
  simp only [List.length_set]
  split
  · simp; omega
  · omega
theorem wsStep_bound {s : WS} {ch m : Nat} (h : s.b ≤ m ∧ s.c.length ≤ m ∧ s.n ≤ m ∧ s.nt ≤ m) : (wsStep s ch).b ≤ m + 1 ∧ (wsStep s ch).c.length ≤ m + 1 ∧ (wsStep s ch).n ≤ m + 1 ∧ (wsStep s ch).nt ≤ m + 1 := by
  unfold wsStep
  split
  · exact ⟨by show _ + 1 ≤ _; omega, by show s.c.length ≤ _; omega, by show _ + 1 ≤ _; omega, by show s.nt ≤ _; omega⟩
  · have := @bump_len s.c s.b
    exact ⟨by show 0 ≤ _; omega, by show (bump _ _).length ≤ _; omega, by show _ + 1 ≤ _; omega, by show _ + 1 ≤ _; omega⟩
theorem ws_bound' : ∀ (l : List Nat) {s : WS} {m : Nat}, (s.b ≤ m ∧ s.c.length ≤ m ∧ s.n ≤ m ∧ s.nt ≤ m) → (l.foldl wsStep s).b ≤ m + l.length ∧ (l.foldl wsStep s).c.length ≤ m + l.length ∧ (l.foldl wsStep s).n ≤ m + l.length ∧ (l.foldl wsStep s).nt ≤ m + l.length
  | [], s, m, h => h
  | ch :: l, s, m, h => by
    have := ws_bound' l (wsStep_bound (ch := ch) h)
    rw [List.foldl_cons, List.length_cons, show m + (l.length + 1) = m + 1 + l.length by omega]
    exact this
theorem ws_bound (l : List Nat) : (wsRun l).b ≤ l.length ∧ (wsRun l).c.length ≤ l.length ∧ (wsRun l).n ≤ l.length ∧ (wsRun l).nt ≤ l.length := by
  have := @ws_bound' l ⟨[], 0, 0, 0⟩ 0 ⟨Nat.le_refl _, Nat.le_refl _, Nat.le_refl _, Nat.le_refl _⟩
  simpa [wsRun] using this
theorem takeWhile_stop : ∀ {l : List Nat} {i : Nat} {ch : Nat}, (∀ x ∈ l.take i, isB x = true) → l[i]? = some ch → isB ch = false → l.takeWhile isB = l.take i
  | [], i, ch, _, h, _ => by simp at h
  | x :: l, 0, ch, _, h, hb => by
    simp at h; subst h
    rw [List.takeWhile_cons, hb]; rfl
  | x :: l, i + 1, ch, ha, h, hb => by
    rw [List.take_succ_cons, List.takeWhile_cons, ha x (by simp)]
    simp only [if_true]
    rw [takeWhile_stop (fun y hy => ha y (by rw [List.take_succ_cons]; exact List.mem_cons_of_mem _ hy)) (by simpa using h) hb]
theorem takeWhile_all {l : List Nat} (h : ∀ x ∈ l, isB x = true) : l.takeWhile isB = l := by
  induction l with
  | nil => rfl
  | cons x l ih => rw [List.takeWhile_cons, h x (by simp), if_pos rfl, ih fun y hy => h y (List.mem_cons_of_mem _ hy)]

theorem get_mid {α : Type} {σ τ : List α} {m : α} : (σ ++ m :: τ)[σ.length]? = some m := by simp
theorem set_mid {α : Type} {σ τ : List α} {m m' : α} : (σ ++ m :: τ).set σ.length m' = σ ++ m' :: τ := by simp
theorem get_in {α : Type} {σ τ : List α} {m : α} {k : Nat} : (σ ++ m :: τ)[σ.length + 1 + k]? = τ[k]? := by
  rw [List.getElem?_append_right (by omega), show σ.length + 1 + k - σ.length = k + 1 by omega, List.getElem?_cons_succ]
theorem set_in {α : Type} {σ τ : List α} {m x : α} {k : Nat} : (σ ++ m :: τ).set (σ.length + 1 + k) x = σ ++ m :: τ.set k x := by
  rw [List.set_append_right _ _ (by omega), show σ.length + 1 + k - σ.length = k + 1 by omega, List.set_cons_succ]
theorem len_mid {α : Type} {σ τ : List α} {m : α} : (σ ++ m :: τ).length = σ.length + 1 + τ.length := by simp; omega
theorem app_mid {α : Type} {σ τ υ : List α} {m : α} : (σ ++ m :: τ) ++ υ = σ ++ m :: (τ ++ υ) := by simp
theorem s_sp : Str.ofString " " = ⟨#[32]⟩ := by decide +kernel
theorem s_tab : Str.ofString "\t" = ⟨#[9]⟩ := by decide +kernel

noncomputable def simpleW (s : WS) : Bool := decide (s.c.length ≤ 1)
noncomputable def runW (s : WS) : Int := if (s.b : Int) > (s.c.length : Int) - 1 then (s.b : Int) else (s.c.length : Int) - 1
noncomputable def ilW (c : List Nat) (ts : Nat) : Nat → Nat
  | 0 => 0
  | m + 1 => ilW c ts m + (ts + m) / ts * c.getD (ts + m) 0
noncomputable def indW (s : WS) (ts : Nat) : Nat := s.b + ts * (ilW s.c ts (s.c.length - ts) + s.nt)
noncomputable def equW (s o : WS) : Bool := decide (s.c = o.c) && decide (s.b = o.b)
noncomputable def topW (s o : WS) : Int := (if runW o > runW s then runW o else runW s) + 1
/-- the sizes from 2 on -/
noncomputable def allW (s o : WS) : Nat → Bool
  | 0 => true
  | m + 1 => allW s o m && decide (indW s (2 + m) < indW o (2 + m))
noncomputable def lessW (s o : WS) : Bool := if s.n ≥ o.n then false else if simpleW s && simpleW o then decide (s.nt ≤ o.nt) else allW s o (topW s o - 1).toNat
noncomputable def normD (s : WS) : D := .tup [.tup (intsOf s.c), .int s.b]

noncomputable def wordA : Nat → Nat → List Nat → List Nat
  | 0, _, acc => acc
  | f + 1, n, acc => if n ≤ 1 then acc else wordA f (n / 2) ((if n % 2 = 0 then 32 else 9) :: acc)
noncomputable def wordOf (n : Nat) : List Nat := wordA 8 n []
noncomputable def letC (ch : Nat) : Nat := if (if ch = 32 then 120 else ch) = 9 then 88 else (if ch = 32 then 120 else ch)
noncomputable def letL (l : List Nat) : List Nat := l.map letC
noncomputable def pairStep (s : Nat × Nat) (ch : Nat) : Nat × Nat := if ch = 32 then (s.1 + 1, s.2) else if s.1 > 0 then (s.1 - 1, s.2 + 1) else s
noncomputable def pairsOf (l : List Nat) : Nat := (l.foldl pairStep (0, 0)).2

theorem str_app {a b : List Nat} : (⟨a.toArray⟩ : Str) ++ ⟨b.toArray⟩ = ⟨(a ++ b).toArray⟩ := by
  show Str.mk (a.toArray ++ b.toArray) = _
  rw [List.append_toArray]
theorem s_emp : Str.ofString "" = ⟨([] : List Nat).toArray⟩ := by decide +kernel

/-- what the cut keeps -/
noncomputable def cntT (l : List Nat) : Nat := l.count 9
noncomputable def keptAt (l : List Nat) (T B cut : Nat) : Nat := min T (cntT (l.take cut)) + min B ((l.drop cut).length - cntT (l.drop cut))
noncomputable def loC (l : List Nat) (T B : Nat) : Nat := min T (l.length - B)
noncomputable def hiC (l : List Nat) (T B : Nat) : Nat := min l.length (max T (l.length - B))
noncomputable def maxN (l : List Nat) (T B lo : Nat) : Nat → Nat
  | 0 => keptAt l T B lo
  | n + 1 => max (maxN l T B lo n) (keptAt l T B (lo + n + 1))
noncomputable def lostN (l : List Nat) (T B : Nat) : Int := ((min l.length (T + B) : Nat) : Int) - (maxN l T B (loC l T B) (hiC l T B - loC l T B) : Nat)

/-- a part with x and a tab behind -/
noncomputable def tail2 (l : List Nat) : List Nat := l ++ [120, 9]
theorem wsOf_tail {l : List Nat} (h : ∀ x ∈ l, isB x = true) : wsOf (tail2 l) = wsRun l := by
  unfold wsOf tail2
  rw [takeWhile_stop (i := l.length) (ch := 120)]
  · rw [List.take_left]
  · rw [List.take_left]; exact h
  · simp
  · rfl
noncomputable def partD (p q : List Nat) : D := .list [.ws (wsD (tail2 p)), .ws (wsD (tail2 q))]
noncomputable def partsD (l : List Nat) : List D := (List.range (l.length + 1)).map fun n => partD (l.take n) (l.drop (l.length - n))
noncomputable def natsD (f : Nat → Nat) (n : Nat) : List D := (List.range n).map fun i => .int (f i : Nat)

noncomputable def sides (l : List Nat) (n : Nat) : List (List Nat) := [l.take n, l.drop (l.length - n)]
noncomputable def entry (p : List Nat) : List Nat × List Nat := (letL p, tail2 p)
/-- the table after n sizes -/
noncomputable def tabN (l : List Nat) : Nat → List (List Nat × List Nat)
  | 0 => []
  | n + 1 => tabN l n ++ (sides l n).map entry
noncomputable def lowL (l : List Nat) : List Nat := l.map low
noncomputable def getT (T : List (List Nat × List Nat)) (name : List Nat) : List (List Nat) := (T.filter fun kv => decide (lowL kv.1 = name)).map (·.2)
theorem getT_app {T T' : List (List Nat × List Nat)} {name : List Nat} : getT (T ++ T') name = getT T name ++ getT T' name := by
  unfold getT; rw [List.filter_append, List.map_append]
theorem tail_tame {p : List Nat} (h : ∀ x ∈ p, isB x = true) : ∀ x ∈ tail2 p, tameC x = true := by
  intro x hx
  unfold tail2 at hx
  rcases List.mem_append.mp hx with hx | hx
  · have := h x hx
    unfold isB at this
    have : x = 32 ∨ x = 9 := by simpa using this
    rcases this with rfl | rfl <;> rfl
  · have : x = 120 ∨ x = 9 := by simpa using hx
    rcases this with rfl | rfl <;> rfl
theorem s_xt : Str.ofString "x\t" = ⟨[120, 9].toArray⟩ := by decide +kernel
theorem flat_rep {ch : Nat} : ∀ n, (List.replicate n [ch]).flatten = List.replicate n ch
  | 0 => rfl
  | n + 1 => by rw [List.replicate_succ, List.flatten_cons, flat_rep n, List.replicate_succ]; rfl

set_option maxRecDepth 100000
noncomputable def bagL (b : Nat) : List Nat := [[], [1], [2], [1, 3]].getD b []
noncomputable def runsL (m b : Nat) : List Nat := if m / 16 % 2 = 0 then bagL b else (bagL b).reverse
noncomputable def bodyL (m b : Nat) : List Nat := ((runsL m b).map fun r => List.replicate r 32 ++ [9]).flatten
noncomputable def headL (m b : Nat) : List Nat := if m / 32 % 2 = 0 then List.replicate (m % 4) 9 ++ bodyL m b else bodyL m b ++ List.replicate (m % 4) 9
noncomputable def leadL (m b : Nat) : List Nat := headL m b ++ List.replicate (m / 4 % 4) 32
/-- the residue that tells the lead -/
noncomputable def resN (n : Int) : Nat := (n.fmod 64).toNat
theorem res_lt {n : Int} : resN n < 64 := by
  have h0 : 0 ≤ n.fmod 64 := Int.fmod_nonneg_of_pos _ (by omega)
  have h1 : n.fmod 64 < 64 := Int.fmod_lt_of_pos _ (by omega)
  unfold resN; omega
theorem fmod_e {n k : Int} (h : 0 ≤ k) : n.fmod k = n % k := Int.fmod_eq_emod_of_nonneg n h
theorem fdiv_e {n k : Int} (h : 0 ≤ k) : n.fdiv k = n / k := Int.fdiv_eq_ediv_of_nonneg n h
theorem res_q {n : Int} : n = ((resN n : Nat) : Int) + 64 * (n / 64) := by
  have e : ((resN n : Nat) : Int) = n % 64 := by
    unfold resN; rw [fmod_e (by decide)]; exact Int.toNat_of_nonneg (Int.emod_nonneg _ (by decide))
  rw [e]; exact (Int.emod_add_mul_ediv n 64).symm
theorem shift_div {m q a b c : Int} (ha : a ≠ 0) : (m + a * b * c * q) / a % b = m / a % b := by
  rw [Int.mul_assoc, Int.mul_assoc, Int.add_mul_ediv_left _ _ ha, Int.add_mul_emod_self_left]
theorem res_tabs {n : Int} : n.fmod 4 = ((resN n % 4 : Nat) : Int) := by
  rw [fmod_e (by decide)]
  conv => lhs; rw [@res_q n]
  exact Int.add_mul_emod_self_left _ 4 (16 * (n / 64)) |> fun h => by rw [← Int.mul_assoc] at h; exact h
theorem res_rev {n : Int} : (n.fdiv 16).fmod 2 = ((resN n / 16 % 2 : Nat) : Int) := by
  rw [fmod_e (by decide), fdiv_e (by decide)]
  conv => lhs; rw [@res_q n]
  exact shift_div (a := 16) (b := 2) (c := 2) (by decide)
theorem res_ord {n : Int} : (n.fdiv 32).fmod 2 = ((resN n / 32 % 2 : Nat) : Int) := by
  rw [fmod_e (by decide), fdiv_e (by decide)]
  conv => lhs; rw [@res_q n]
  exact shift_div (a := 32) (b := 2) (c := 1) (by decide)
theorem res_end {n : Int} : (n.fdiv 4).fmod 4 = ((resN n / 4 % 4 : Nat) : Int) := by
  rw [fmod_e (by decide), fdiv_e (by decide)]
  conv => lhs; rw [@res_q n]
  exact shift_div (a := 4) (b := 4) (c := 4) (by decide)

noncomputable def allN2 (p : Nat → Nat → Bool) (a b : Nat) : Bool := (List.range a).all fun i => (List.range b).all fun j => p i j
theorem allN2_at {p : Nat → Nat → Bool} {a b i j : Nat} (h : allN2 p a b = true) (hi : i < a) (hj : j < b) : p i j = true := by
  unfold allN2 at h
  simp only [List.all_eq_true, List.mem_range] at h
  exact h i hi j hj
/-- what Whitespace makes of a lead: its tabs, its blanks at the end and the bag alone count -/
noncomputable def cL (t b : Nat) : List Nat := match b with
  | 0 => if t = 0 then [] else [t]
  | 1 => [t, 1]
  | 2 => [t, 0, 1]
  | _ => [t, 1, 0, 1]
noncomputable def lenB (b : Nat) : Nat := [0, 2, 3, 6].getD b 0
noncomputable def ntB (b : Nat) : Nat := [0, 1, 1, 2].getD b 0
noncomputable def wsL (t p b : Nat) : WS := ⟨cL t b, p, t + p + lenB b, t + ntB b⟩
noncomputable def eqWS (x y : WS) : Bool := (x.c == y.c) && (Nat.beq x.b y.b && (Nat.beq x.n y.n && Nat.beq x.nt y.nt))
theorem eqWS_eq {x y : WS} (h : eqWS x y = true) : x = y := by
  cases x; cases y
  simp only [eqWS, Bool.and_eq_true, beq_iff_eq] at h
  obtain ⟨h1, h2, h3, h4⟩ := h
  rw [h1, Nat.eq_of_beq_eq_true h2, Nat.eq_of_beq_eq_true h3, Nat.eq_of_beq_eq_true h4]
theorem lead_all : allN2 (fun m b => eqWS (wsRun (leadL m b)) (wsL (m % 4) (m / 4 % 4) b) && (leadL m b).all isB) 64 4 = true := by decide +kernel
theorem lead_ws {m b : Nat} (hm : m < 64) (hb : b < 4) : wsRun (leadL m b) = wsL (m % 4) (m / 4 % 4) b := eqWS_eq (Bool.and_eq_true_iff.mp (allN2_at lead_all hm hb)).1
theorem lead_B {m b : Nat} (hm : m < 64) (hb : b < 4) : ∀ x ∈ leadL m b, isB x = true := List.all_eq_true.mp (Bool.and_eq_true_iff.mp (allN2_at lead_all hm hb)).2
theorem lead_of {m b : Nat} (hm : m < 64) (hb : b < 4) : wsOf (tail2 (leadL m b)) = wsL (m % 4) (m / 4 % 4) b := by rw [wsOf_tail (lead_B hm hb), lead_ws hm hb]
noncomputable def tbN (m : Nat) : Nat := m % 4
noncomputable def sgN (m : Nat) : Nat := m % 4 + m / 4 % 4
/-- which of two leads is less -/
noncomputable def relN (m m' : Nat) : Bool := Nat.blt (sgN m) (sgN m') && Nat.ble (tbN m) (tbN m')
theorem less_all : allN2 (fun x y => allN2 (fun z b => lessW (wsL (x % 4) (x / 4) b) (wsL (y % 4) (y / 4) b) == (Nat.blt (x % 4 + x / 4) (y % 4 + y / 4) && Nat.ble (x % 4) (y % 4))) 1 4) 16 16 = true := by decide +kernel
theorem less_lead {m m' b : Nat} (hm : m < 64) (hm' : m' < 64) (hb : b < 4) : lessW (wsOf (tail2 (leadL m b))) (wsOf (tail2 (leadL m' b))) = relN m m' := by
  rw [lead_of hm hb, lead_of hm' hb]
  have h1 := allN2_at less_all (Nat.mod_lt m (by omega : 16 > 0)) (Nat.mod_lt m' (by omega : 16 > 0))
  have h2 := allN2_at h1 (by omega : 0 < 1) hb
  have h := eq_of_beq h2
  have e : ∀ m : Nat, m % 16 % 4 = m % 4 ∧ m % 16 / 4 = m / 4 % 4 := fun m => ⟨Nat.mod_mul_right_mod m 4 4, Nat.mod_mul_right_div_self m 4 4⟩
  rw [(e m).1, (e m).2, (e m').1, (e m').2] at h
  exact h
/-- one behind a blank -/
theorem sp_all : allN2 (fun m b => lessW (wsL (m % 4) (m / 4 % 4) b) (wsOf (32 :: tail2 (leadL m b))) == (Nat.beq (m % 4) 0 && Nat.beq b 0)) 64 4 = true := by decide +kernel
theorem less_sp {m b : Nat} (hm : m < 64) (hb : b < 4) : lessW (wsOf (tail2 (leadL m b))) (wsOf (32 :: tail2 (leadL m b))) = (Nat.beq (tbN m) 0 && Nat.beq b 0) := by
  rw [lead_of hm hb]; exact eq_of_beq (allN2_at sp_all hm hb)
/-- met at one tab size alone -/
noncomputable def farL (m b run : Nat) : List Nat := List.replicate run 32 ++ 9 :: tail2 (leadL m b)
noncomputable def nearL (m b run more : Nat) : List Nat := List.replicate (run - 1) 32 ++ 9 :: (leadL m b ++ List.replicate more 32)
theorem met_all : allN2 (fun m b => allN2 (fun k j => lessW (wsOf (farL m b (k + 2))) (wsOf (nearL m b (k + 2) (k + 2 + j))) == Nat.beq j 1) 4 2) 64 4 = true := by decide +kernel
theorem less_met {m b k j : Nat} (hm : m < 64) (hb : b < 4) (hk : k < 4) (hj : j < 2) : lessW (wsOf (farL m b (k + 2))) (wsOf (nearL m b (k + 2) (k + 2 + j))) = Nat.beq j 1 := by
  have h1 := allN2_at met_all hm hb
  exact eq_of_beq (allN2_at h1 hk hj)
theorem lens_all : allN2 (fun m b => Nat.ble (leadL m b).length 12) 64 4 = true := by decide +kernel
theorem lead_len {m b : Nat} (hm : m < 64) (hb : b < 4) : (leadL m b).length ≤ 12 := by
  have h := allN2_at (p := fun m b => Nat.ble (leadL m b).length 12) lens_all hm hb
  exact Nat.le_of_ble_eq_true h
theorem range_getD {α β : Type} {g : α → β} {d : α} {c : List α} : (List.range c.length).map (fun j => g (c.getD j d)) = c.map g := by
  apply List.ext_getElem?
  intro i
  rw [List.getElem?_map, List.getElem?_map]
  rcases Nat.lt_or_ge i c.length with h | h
  · rw [List.getElem?_range h, List.getElem?_eq_getElem h, Option.map_some, Option.map_some, List.getD_eq_getElem?_getD, List.getElem?_eq_getElem h]; rfl
  · rw [List.getElem?_eq_none (by rw [List.length_range]; exact h), List.getElem?_eq_none h]; rfl

/-! flat lists: what == says of them -/
noncomputable def flatD : D → Bool
  | .bool _ => true
  | .int _ => true
  | .str x => PyData.canLay0 (.str x)
  | _ => false
theorem flat_data : ∀ {ds : List D}, ds.all flatD = true → D.areData ds = true
  | [], _ => rfl
  | d :: ds, h => by
    rw [List.all_cons, Bool.and_eq_true] at h
    show (D.isData d && D.areData ds) = true
    rw [flat_data h.2, Bool.and_true]
    cases d <;> first | rfl | exact (Bool.false_ne_true h.1).elim
theorem flat_lay : ∀ {ds : List D}, ds.all flatD = true → PyData.canLayAll0 (toPys ds) = true ∧ PyData.depthAll (toPys ds) = 0
  | [], _ => ⟨rfl, rfl⟩
  | d :: ds, h => by
    rw [List.all_cons, Bool.and_eq_true] at h
    obtain ⟨a, b⟩ := flat_lay h.2
    show (PyData.canLay0 (toPy d) && PyData.canLayAll0 (toPys ds)) = true ∧ max (PyData.depth (toPy d)) (PyData.depthAll (toPys ds)) = 0
    rw [a, b]
    cases d <;> first | exact ⟨rfl, rfl⟩ | exact (Bool.false_ne_true h.1).elim | exact ⟨by rw [Bool.and_true]; exact h.1, rfl⟩
theorem flat_shaped {ds : List D} (h : ds.all flatD = true) : SeqAt.shaped (toPy (.list ds)) = true := by
  obtain ⟨a, b⟩ := flat_lay h
  unfold SeqAt.shaped
  show (PyData.canLayAll0 (toPys ds) && _) = true
  rw [a, Bool.true_and]
  show decide (PyData.depthAll (toPys ds) + 1 ≤ 64) = true
  rw [b]; decide
theorem strs_flat : ∀ {ls : List (List Nat)}, (∀ l ∈ ls, PyData.canLay0 (.str ⟨l.toArray⟩) = true) → (ls.map fun l => D.str ⟨l.toArray⟩).all flatD = true
  | [], _ => rfl
  | l :: ls, h => by
    rw [List.map_cons, List.all_cons, strs_flat fun l' hl => h l' (List.mem_cons_of_mem _ hl), Bool.and_true]
    exact h l (List.mem_cons_self ..)
theorem bools_flat : ∀ {bs : List Bool}, (bs.map D.bool).all flatD = true
  | [] => rfl
  | _ :: bs => by rw [List.map_cons, List.all_cons, bools_flat]; rfl
theorem eqv_nil {ds : List D} : PyData.eqv (toPy (.list ds)) (toPy (.list [])) = ds.isEmpty := by
  cases ds <;> rfl
theorem bools_eq : ∀ {as bs : List Bool}, PyData.eqvAll (toPys (as.map D.bool)) (toPys (bs.map D.bool)) = decide (as = bs)
  | [], [] => rfl
  | [], _ :: _ => rfl
  | _ :: _, [] => rfl
  | a :: as, b :: bs => by
    show ((a == b) && PyData.eqvAll (toPys (as.map D.bool)) (toPys (bs.map D.bool))) = _
    rw [bools_eq, Bool.eq_iff_iff]
    simp
theorem eqv_bools {as bs : List Bool} : PyData.eqv (toPy (.list (as.map D.bool))) (toPy (.list (bs.map D.bool))) = decide (as = bs) := bools_eq
theorem lay_all : allN2 (fun m b => (tail2 (leadL m b)).all fun x => decide (x < 0x110000)) 64 4 = true := by decide +kernel
theorem lead_lay {m b : Nat} (hm : m < 64) (hb : b < 4) : PyData.canLay0 (.str ⟨(tail2 (leadL m b)).toArray⟩) = true := by
  have h := allN2_at (p := fun m b => (tail2 (leadL m b)).all fun x => decide (x < 0x110000)) lay_all hm hb
  show ((tail2 (leadL m b)).toArray.all fun x => decide (x < 0x110000)) = true
  rw [List.all_toArray]; exact h

set_option maxRecDepth 100000
/-! the two tables: items, each with its place -/
noncomputable abbrev Pl := List (Nat × Nat)
noncomputable def atP (A : Pl) (p : Nat) : List Nat := (A.filter fun e => Nat.beq e.1 p).map (·.2)
noncomputable def lastL {α : Type} (l : List α) : List α := l.drop (l.length - 1)
noncomputable def blC (rel : Nat → Nat → Bool) (A : Pl) (m p : Nat) : Bool := (lastL (atP A p)).any fun x => rel x m == false
noncomputable def blL (rel : Nat → Nat → Bool) (A : Pl) (m p : Nat) : Bool := (atP A p).any fun x => rel x m == true
noncomputable def placeR (bl : Nat → Bool) : Nat → Nat → Nat
  | 0, p => p
  | f + 1, p => cond (bl p) (placeR bl f (p + 1)) p
noncomputable def stepP (bl : Pl → Nat → Nat → Bool) (A : Pl) (m : Nat) : Pl := A ++ [(placeR (bl A m) A.length 0, m)]
noncomputable def runP (bl : Pl → Nat → Nat → Bool) (ms : List Nat) : Pl := ms.foldl (stepP bl) []
noncomputable def namesP (A : Pl) : Nat := ([0, 1, 2, 3].filter fun p => !(atP A p).isEmpty).length
theorem place_at {bl : Nat → Bool} : ∀ {d f p : Nat}, (∀ e < d, bl (p + e) = true) → (d < f → bl (p + d) = false) → d ≤ f → placeR bl f p = p + d
  | 0, 0, p, _, _, _ => rfl
  | 0, f + 1, p, _, h, _ => by
    have := h (by omega)
    show cond (bl p) _ p = p
    rw [show bl p = false from this]; rfl
  | d + 1, 0, p, _, _, h => by omega
  | d + 1, f + 1, p, h, h2, h3 => by
    show cond (bl p) (placeR bl f (p + 1)) p = _
    rw [show bl p = true from h 0 (by omega)]
    show placeR bl f (p + 1) = _
    rw [place_at (d := d) (fun e he => by have := h (e + 1) (by omega); rwa [show p + 1 + e = p + (e + 1) by omega]) (fun h' => by have := h2 (by omega); rwa [show p + 1 + d = p + (d + 1) by omega]) (by omega)]
    omega
theorem place_le {bl : Nat → Bool} : ∀ {f p : Nat}, placeR bl f p ≤ p + f
  | 0, p => Nat.le_refl _
  | f + 1, p => by
    show cond (bl p) (placeR bl f (p + 1)) p ≤ _
    cases bl p with
    | true => have := @place_le bl f (p + 1); show placeR bl f (p + 1) ≤ _; omega
    | false => show p ≤ _; omega
theorem runP_snoc {bl : Pl → Nat → Nat → Bool} {ms : List Nat} {m : Nat} : runP bl (ms ++ [m]) = stepP bl (runP bl ms) m := by unfold runP; rw [List.foldl_append]; rfl
theorem stepP_len {bl : Pl → Nat → Nat → Bool} {A : Pl} {m : Nat} : (stepP bl A m).length = A.length + 1 := by simp [stepP]
theorem run_len {bl : Pl → Nat → Nat → Bool} : ∀ {ms : List Nat} {A : Pl}, (ms.foldl (stepP bl) A).length = A.length + ms.length
  | [], A => rfl
  | m :: ms, A => by
    rw [List.foldl_cons, run_len, stepP_len, List.length_cons]; omega
/-- each item's place is at most as great as the number of those ahead of it -/
theorem run_le {bl : Pl → Nat → Nat → Bool} : ∀ {ms : List Nat} {A : Pl}, (∀ e ∈ A, e.1 < A.length) → ∀ e ∈ ms.foldl (stepP bl) A, e.1 < (ms.foldl (stepP bl) A).length
  | [], A, h => h
  | m :: ms, A, h => by
    rw [List.foldl_cons]
    refine run_le fun e he => ?_
    rw [stepP_len]
    rcases List.mem_append.mp he with he | he
    · have := h e he; omega
    · rw [List.mem_singleton.mp he]
      have := @place_le (bl A m) A.length 0
      show placeR (bl A m) A.length 0 < _
      omega
theorem at_none {A : Pl} {p : Nat} (h : ∀ e ∈ A, e.1 < A.length) (hp : A.length ≤ p) : atP A p = [] := by
  unfold atP
  rw [List.filter_eq_nil_iff.mpr fun e he hb => ?_]; · rfl
  have := h e he
  have := Nat.eq_of_beq_eq_true hb
  omega

/-- the same, by other items -/
theorem at_map {f : Nat → Nat} {A : Pl} {p : Nat} : atP (A.map fun e => (e.1, f e.2)) p = (atP A p).map f := by
  unfold atP
  rw [List.filter_map, List.map_map, List.map_map]
  rfl
structure Same (bl bl' : Pl → Nat → Nat → Bool) (f : Nat → Nat) (S : List Nat) : Prop where
  eq : ∀ (A : Pl) (m p : Nat), (∀ e ∈ A, e.2 ∈ S) → m ∈ S → bl (A.map fun e => (e.1, f e.2)) (f m) p = bl' A m p
theorem at_mem {A : Pl} {S : List Nat} {p x : Nat} (h : ∀ e ∈ A, e.2 ∈ S) (hx : x ∈ atP A p) : x ∈ S := by
  obtain ⟨e, he, rfl⟩ := List.mem_map.mp hx
  exact h e (List.mem_filter.mp he).1
theorem same_L {rel rel' : Nat → Nat → Bool} {f : Nat → Nat} {S : List Nat} (h : ∀ i ∈ S, ∀ j ∈ S, rel (f i) (f j) = rel' i j) : Same (blL rel) (blL rel') f S := ⟨fun A m p hA hm => by
  unfold blL
  rw [at_map, List.any_map]
  have : ∀ l : List Nat, (∀ x ∈ l, x ∈ S) → (l.any ((fun x => rel x (f m) == true) ∘ f)) = l.any fun x => rel' x m == true := fun l => by
    induction l with
    | nil => intro _; rfl
    | cons x l ih =>
      intro hl
      rw [List.any_cons, List.any_cons, ih fun y hy => hl y (List.mem_cons_of_mem _ hy)]
      show (rel (f x) (f m) == true || _) = _
      rw [h x (hl x (List.mem_cons_self ..)) m hm]
  exact this _ fun x hx => at_mem hA hx⟩
theorem same_C {rel rel' : Nat → Nat → Bool} {f : Nat → Nat} {S : List Nat} (h : ∀ i ∈ S, ∀ j ∈ S, rel (f i) (f j) = rel' i j) : Same (blC rel) (blC rel') f S := ⟨fun A m p hA hm => by
  unfold blC lastL
  rw [at_map, List.length_map, ← List.map_drop, List.any_map]
  have : ∀ l : List Nat, (∀ x ∈ l, x ∈ S) → (l.any ((fun x => rel x (f m) == false) ∘ f)) = l.any fun x => rel' x m == false := fun l => by
    induction l with
    | nil => intro _; rfl
    | cons x l ih =>
      intro hl
      rw [List.any_cons, List.any_cons, ih fun y hy => hl y (List.mem_cons_of_mem _ hy)]
      show (rel (f x) (f m) == false || _) = _
      rw [h x (hl x (List.mem_cons_self ..)) m hm]
  exact this _ fun x hx => at_mem hA (List.mem_of_mem_drop hx)⟩
theorem run_same {bl bl' : Pl → Nat → Nat → Bool} {f : Nat → Nat} {S : List Nat} (h : Same bl bl' f S) : ∀ (is : List Nat) (A : Pl), (∀ e ∈ A, e.2 ∈ S) → (∀ i ∈ is, i ∈ S) →
    (is.map f).foldl (stepP bl) (A.map fun e => (e.1, f e.2)) = (is.foldl (stepP bl') A).map fun e => (e.1, f e.2)
  | [], A, _, _ => rfl
  | i :: is, A, hA, hi => by
    rw [List.map_cons, List.foldl_cons, List.foldl_cons]
    have e : stepP bl (A.map fun e => (e.1, f e.2)) (f i) = (stepP bl' A i).map fun e => (e.1, f e.2) := by
      unfold stepP
      have : bl (A.map fun e => (e.1, f e.2)) (f i) = bl' A i := funext fun p => h.eq A i p hA (hi i (List.mem_cons_self ..))
      rw [this, List.length_map, List.map_append]; rfl
    rw [e]
    refine run_same h is _ (fun e he => ?_) fun j hj => hi j (List.mem_cons_of_mem _ hj)
    rcases List.mem_append.mp he with he | he
    · exact hA e he
    · rw [List.mem_singleton.mp he]; exact hi i (List.mem_cons_self ..)
theorem names_map' {f : Nat → Nat} {A : Pl} : namesP (A.map fun e => (e.1, f e.2)) = namesP A := by
  unfold namesP
  congr 1
  refine List.filter_congr fun p _ => ?_
  rw [at_map, List.isEmpty_map]
theorem names_same {bl bl' : Pl → Nat → Nat → Bool} {f : Nat → Nat} {is : List Nat} (h : Same bl bl' f is) : namesP (runP bl (is.map f)) = namesP (runP bl' is) := by
  have := run_same h is [] (fun e he => by cases he) (fun i hi => hi)
  unfold runP
  rw [List.map_nil] at this
  rw [this, names_map']

/-! the distances -/
theorem dist_map {f : Nat → Nat} : ∀ {a b : List Nat}, (∀ x ∈ a, ∀ y ∈ b, subC (f x) (f y) = subC x y) → dist (a.map f) (b.map f) = dist a b
  | [], b, _ => by rw [List.map_nil, dist_nil, dist_nil, List.length_map]
  | x :: a, [], _ => by rw [List.map_nil, List.map_cons, dist_cons_nil, dist_cons_nil, List.length_map]
  | x :: a, y :: b, h => by
    have h1 := @dist_map f a b fun u hu v hv => h u (List.mem_cons_of_mem _ hu) v (List.mem_cons_of_mem _ hv)
    have h2 := @dist_map f a (y :: b) fun u hu v hv => h u (List.mem_cons_of_mem _ hu) v hv
    have h3 := @dist_map f (x :: a) b fun u hu v hv => h u hu v (List.mem_cons_of_mem _ hv)
    rw [List.map_cons] at h2 h3
    rw [List.map_cons, List.map_cons, dist_cons, dist_cons, h1, h2, h3, h x (List.mem_cons_self ..) y (List.mem_cons_self ..)]
termination_by a b => a.length + b.length
theorem lev_map {f : Nat → Nat} {a b : List Nat} (h : ∀ x ∈ a, ∀ y ∈ b, subC (f x) (f y) = subC x y) : lev (a.map f) (b.map f) = lev a b := by
  unfold lev
  rw [← List.map_reverse, ← List.map_reverse]
  exact dist_map fun x hx y hy => h x (List.mem_reverse.mp hx) y (List.mem_reverse.mp hy)
noncomputable def wordP (p : List Nat) : List Nat := p.map fun i => 97 + i
noncomputable def dots (l : List Nat) : List Nat := [46, 46] ++ (l.map fun x => [x, 46, 46]).flatten
noncomputable def thereP (q : List Nat) : List Nat := dots (q.map fun i => 97 + i)
noncomputable def backP (q : List Nat) : List Nat := dots (q.reverse.map fun i => 65 + i)
noncomputable def idx (x : Nat) : List Nat → Nat
  | [] => 0
  | y :: l => cond (Nat.beq x y) 0 (Nat.succ (idx x l))
noncomputable def letF (p : List Nat) (ch : Nat) : Nat := cond (Nat.ble 97 ch && Nat.blt ch 101) (97 + idx (ch - 97) p) (cond (Nat.ble 65 ch && Nat.blt ch 69) (65 + idx (ch - 65) p) ch)
noncomputable def relC (c : List Nat) (i j : Nat) : Bool := Nat.blt i j && Nat.blt (idx i c) (idx j c)
/-- the 24 ways that one order can lie by another -/
noncomputable def chk24 (c : List Nat) : Bool := Nat.beq (lev (wordP [0, 1, 2, 3]) (thereP c) + 2 * namesP (runP (blL (relC c)) [0, 1, 2, 3])) 28 && Nat.beq (lev (wordP [0, 1, 2, 3]) (backP c) + namesP (runP (blC (relC c)) [0, 1, 2, 3])) 28
theorem all24 : perms4.all chk24 = true := by decide +kernel

set_option maxRecDepth 100000
noncomputable def cPQ (p q : List Nat) : List Nat := q.map fun x => idx x p
noncomputable def bEq (a b : List Nat) : Bool := decide (a = b)
/-- one order's facts -/
noncomputable def chkP (p : List Nat) : Bool := Nat.beq p.length 4 && (r4.all fun u => Nat.blt (idx u p) 4 && Nat.beq (p.getD (idx u p) 9) u) && (r4.all fun i => Nat.blt (p.getD i 9) 4 && Nat.beq (idx (p.getD i 9) p) i) && bEq ((wordP p).map (letF p)) (wordP r4) &&
  ((wordP p).all fun x => Nat.ble 97 x && Nat.blt x 101) && ((thereP p ++ backP p).all fun y => [46, 97, 98, 99, 100, 65, 66, 67, 68].contains y) &&
  ([97, 98, 99, 100].all fun x => [46, 97, 98, 99, 100, 65, 66, 67, 68].all fun y => Nat.beq (subC (letF p x) (letF p y)) (subC x y))
theorem allP : perms4.all chkP = true := by decide +kernel
noncomputable def chkPQ (p q : List Nat) : Bool := perms4.contains (cPQ p q) && (bEq ((thereP q).map (letF p)) (thereP (cPQ p q)) && (bEq ((backP q).map (letF p)) (backP (cPQ p q)) && (r4.all fun i => Nat.beq (idx i (cPQ p q)) (idx (p.getD i 9) q))))
theorem allPQ : (perms4.all fun p => perms4.all fun q => chkPQ p q) = true := by decide +kernel
theorem in_r4 {i : Nat} (h : i < 4) : i ∈ r4 := by unfold r4; simp; omega
section
variable {p q : List Nat}
theorem p_all (hp : p ∈ perms4) : p.length = 4 ∧ (∀ u < 4, idx u p < 4 ∧ p.getD (idx u p) 9 = u) ∧ (∀ i < 4, p.getD i 9 < 4 ∧ idx (p.getD i 9) p = i) ∧ (wordP p).map (letF p) = wordP r4 ∧
    (∀ x ∈ wordP p, x ∈ [97, 98, 99, 100]) ∧ (∀ y ∈ thereP p ++ backP p, y ∈ [46, 97, 98, 99, 100, 65, 66, 67, 68]) ∧ (∀ x ∈ [97, 98, 99, 100], ∀ y ∈ [46, 97, 98, 99, 100, 65, 66, 67, 68], subC (letF p x) (letF p y) = subC x y) := by
  have h := List.all_eq_true.mp allP p hp
  unfold chkP at h
  simp only [Bool.and_eq_true] at h
  obtain ⟨⟨⟨⟨⟨⟨h1, h2⟩, h3⟩, h4⟩, h5⟩, h6⟩, h7⟩ := h
  refine ⟨Nat.eq_of_beq_eq_true h1, fun u hu => ?_, fun i hi => ?_, of_decide_eq_true h4, fun x hx => ?_, fun y hy => ?_, fun x hx y hy => ?_⟩
  · have := List.all_eq_true.mp h2 u (in_r4 hu)
    rw [Bool.and_eq_true] at this
    exact ⟨Nat.blt_eq.mp this.1, Nat.eq_of_beq_eq_true this.2⟩
  · have := List.all_eq_true.mp h3 i (in_r4 hi)
    rw [Bool.and_eq_true] at this
    exact ⟨Nat.blt_eq.mp this.1, Nat.eq_of_beq_eq_true this.2⟩
  · have := List.all_eq_true.mp h5 x hx
    rw [Bool.and_eq_true] at this
    have a := Nat.le_of_ble_eq_true this.1
    have b := Nat.blt_eq.mp this.2
    simp; omega
  · exact List.contains_iff_mem.mp (List.all_eq_true.mp h6 y hy)
  · exact Nat.eq_of_beq_eq_true (List.all_eq_true.mp (List.all_eq_true.mp h7 x hx) y hy)
theorem pq_all (hp : p ∈ perms4) (hq : q ∈ perms4) : cPQ p q ∈ perms4 ∧ (thereP q).map (letF p) = thereP (cPQ p q) ∧ (backP q).map (letF p) = backP (cPQ p q) ∧ ∀ i < 4, idx i (cPQ p q) = idx (p.getD i 9) q := by
  have h := List.all_eq_true.mp (List.all_eq_true.mp allPQ p hp) q hq
  unfold chkPQ at h
  simp only [Bool.and_eq_true] at h
  obtain ⟨h1, h2, h3, h4⟩ := h
  exact ⟨List.contains_iff_mem.mp h1, of_decide_eq_true h2, of_decide_eq_true h3, fun i hi => Nat.eq_of_beq_eq_true (List.all_eq_true.mp h4 i (in_r4 hi))⟩
/-- both distances and both tables -/
theorem pq_law (hp : p ∈ perms4) (hq : q ∈ perms4) {rel : Nat → Nat → Bool} {μ : Nat → Nat} (hr : ∀ i < 4, ∀ j < 4, rel (μ (p.getD i 9)) (μ (p.getD j 9)) = (Nat.blt i j && Nat.blt (idx (p.getD i 9) q) (idx (p.getD j 9) q))) :
    lev (wordP p) (thereP q) + 2 * namesP (runP (blL rel) (p.map μ)) = 28 ∧ lev (backP q) (wordP p) + namesP (runP (blC rel) (p.map μ)) = 28 := by
  obtain ⟨a1, a2, a3, a4, a5, a6, a7⟩ := p_all hp
  obtain ⟨b1, b2, b3, b4⟩ := pq_all hp hq
  obtain ⟨_, _, _, _, _, c6, _⟩ := p_all hq
  have h := List.all_eq_true.mp all24 _ b1
  unfold chk24 at h
  rw [Bool.and_eq_true] at h
  have h1 := Nat.eq_of_beq_eq_true h.1
  have h2 := Nat.eq_of_beq_eq_true h.2
  have e0 : p.map μ = r4.map fun i => μ (p.getD i 9) := by
    rw [show r4 = List.range p.length by rw [a1]; rfl]
    exact range_getD.symm
  have S : ∀ i ∈ r4, ∀ j ∈ r4, rel (μ (p.getD i 9)) (μ (p.getD j 9)) = relC (cPQ p q) i j := fun i hi j hj => by
    have hi : i < 4 := by unfold r4 at hi; simp at hi; omega
    have hj : j < 4 := by unfold r4 at hj; simp at hj; omega
    rw [hr i hi j hj, relC, b4 i hi, b4 j hj]
  have n1 := names_same (same_L (f := fun i => μ (p.getD i 9)) S)
  have n2 := names_same (same_C (f := fun i => μ (p.getD i 9)) S)
  have l1 : lev (wordP p) (thereP q) = lev (wordP r4) (thereP (cPQ p q)) := by
    rw [← a4, ← b2]
    exact (lev_map fun x hx y hy => a7 x (a5 x hx) y (c6 y (List.mem_append_left _ hy))).symm
  have l2 : lev (wordP p) (backP q) = lev (wordP r4) (backP (cPQ p q)) := by
    rw [← a4, ← b3]
    exact (lev_map fun x hx y hy => a7 x (a5 x hx) y (c6 y (List.mem_append_right _ hy))).symm
  rw [e0, n1, n2, l1, @lev_sym (backP q), l2]
  exact ⟨h1, h2⟩

theorem lt3_total {x y : T3} (h : x.2.2 ≠ y.2.2) (hn : lt3 y x = false) : lt3 x y = true := by
  have hn : ¬ (y.1 < x.1 ∨ (y.1 = x.1 ∧ (y.2.1 < x.2.1 ∨ (y.2.1 = x.2.1 ∧ y.2.2 < x.2.2)))) := fun e => by rw [lt3_iff.mpr e] at hn; cases hn
  rw [lt3_iff]; omega
theorem pair_idx (hp : p ∈ perms4) {t : Nat → T3} (h : (p.map t).Pairwise le3) {u v : Nat} (hu : u < 4) (hv : v < 4) (hd : (t u).2.2 ≠ (t v).2.2) : lt3 (t u) (t v) = Nat.blt (idx u p) (idx v p) := by
  obtain ⟨a1, a2, _⟩ := p_all hp
  obtain ⟨u1, u2⟩ := a2 u hu
  obtain ⟨v1, v2⟩ := a2 v hv
  have g : ∀ i j, i < 4 → j < 4 → i < j → le3 (t (p.getD i 9)) (t (p.getD j 9)) := fun i j hi hj hij => by
    have := (List.pairwise_iff_getElem.mp h) i j (by simpa [a1] using hi) (by simpa [a1] using hj) hij
    rw [List.getElem_map, List.getElem_map] at this
    rw [List.getD_eq_getElem?_getD, List.getD_eq_getElem?_getD, List.getElem?_eq_getElem (by omega), List.getElem?_eq_getElem (by omega)]
    exact this
  rcases Nat.lt_trichotomy (idx u p) (idx v p) with hl | hl | hl
  · have := g _ _ u1 v1 hl
    rw [u2, v2] at this
    rw [Nat.blt_eq.mpr hl]
    exact lt3_total hd this
  · rw [hl, v2] at u2; subst u2; exact absurd rfl hd
  · have := g _ _ v1 u1 hl
    rw [u2, v2] at this
    have e : Nat.blt (idx u p) (idx v p) = false := by
      cases q : Nat.blt (idx u p) (idx v p) with
      | false => rfl
      | true => have := Nat.blt_eq.mp q; omega
    rw [e]; exact this
/-- the two sortings and the relation -/
theorem sort_rel (hp : p ∈ perms4) (hq : q ∈ perms4) {μ : Nat → Nat} (h1 : (p.map fun k => (((sgN (μ k) : Nat) : Int), -((tbN (μ k) : Nat) : Int), (k : Int))).Pairwise le3) (h2 : (q.map fun k => (((tbN (μ k) : Nat) : Int), ((sgN (μ k) : Nat) : Int), -(k : Int))).Pairwise le3) :
    ∀ i < 4, ∀ j < 4, relN (μ (p.getD i 9)) (μ (p.getD j 9)) = (Nat.blt i j && Nat.blt (idx (p.getD i 9) q) (idx (p.getD j 9) q)) := by
  intro i hi j hj
  obtain ⟨_, _, a3, _⟩ := p_all hp
  obtain ⟨i1, i2⟩ := a3 i hi
  obtain ⟨j1, j2⟩ := a3 j hj
  generalize p.getD i 9 = u at *
  generalize p.getD j 9 = v at *
  rcases Nat.decEq u v with huv | huv
  · have e1 := pair_idx hp h1 i1 j1 (by show (u : Int) ≠ v; omega)
    have e2 := pair_idx hq h2 i1 j1 (by show -(u : Int) ≠ -v; omega)
    rw [i2, j2] at e1
    rw [← e1, ← e2, Bool.eq_iff_iff, Bool.and_eq_true, lt3_iff, lt3_iff]
    unfold relN
    rw [Bool.and_eq_true, Nat.blt_eq, Nat.ble_eq]
    dsimp only
    omega
  · subst huv
    have : i = j := by rw [← i2, ← j2]
    subst this
    have e : Nat.blt i i = false := by
      cases q : Nat.blt i i with
      | false => rfl
      | true => have := Nat.blt_eq.mp q; omega
    rw [e, Bool.false_and]
    unfold relN
    cases q : Nat.blt (sgN (μ u)) (sgN (μ u)) with
    | false => rfl
    | true => have := Nat.blt_eq.mp q; omega
end

set_option maxRecDepth 100000
noncomputable def tl_sub_0 : MSs := (.cons (.ret (.glb 2 ⟨71, 11, 71, 21⟩) ⟨71, 4, 71, 21⟩)
  .nil)
noncomputable def tl_sub_1 : MSs := (.cons (.iff (.cmp .Eq (.meth (.bi .lower) (.var 0 ⟨69, 7, 69, 11⟩) .nil none ⟨69, 7, 69, 17⟩ ⟨69, 7, 69, 19⟩) (.meth (.bi .lower) (.var 1 ⟨69, 23, 69, 27⟩) .nil none ⟨69, 23, 69, 33⟩ ⟨69, 23, 69, 35⟩) ⟨69, 7, 69, 35⟩) (.cons (.ret (.glb 3 ⟨70, 15, 70, 25⟩) ⟨70, 8, 70, 25⟩)
  .nil) .nil ⟨69, 4, 70, 25⟩)
  tl_sub_0)
noncomputable def bd_sub : MSs := (.cons (.iff (.cmp .Eq (.var 0 ⟨67, 7, 67, 11⟩) (.var 1 ⟨67, 15, 67, 19⟩) ⟨67, 7, 67, 19⟩) (.cons (.ret (.int 0 0 ⟨68, 15, 68, 16⟩) ⟨68, 8, 68, 16⟩)
  .nil) .nil ⟨67, 4, 68, 16⟩)
  tl_sub_1)
noncomputable def nm_sub (i : Nat) : Str := ([Str.ofString "ch_a", Str.ofString "ch_b", Str.ofString "!"] : List Str).getD i "?"
noncomputable def vis_sub : Vis := ⟨[0, 1], [], [0, 1], [3, 2], []⟩
noncomputable def tb_lev_0 : MB := (.boo .And (.cons (.val (.slc (.var 0 ⟨76, 10, 76, 11⟩) (.some (.var 3 ⟨76, 12, 76, 15⟩)) .none .none ⟨76, 10, 76, 17⟩ ⟨76, 12, 76, 16⟩)) (.cons (.val (.slc (.var 1 ⟨76, 22, 76, 23⟩) (.some (.var 3 ⟨76, 24, 76, 27⟩)) .none .none ⟨76, 22, 76, 29⟩ ⟨76, 24, 76, 28⟩)) (.cons (.cmp .Eq (.sub (.var 0 ⟨76, 35, 76, 36⟩) (.var 3 ⟨76, 37, 76, 40⟩) ⟨76, 35, 76, 41⟩) (.sub (.var 1 ⟨76, 45, 76, 46⟩) (.var 3 ⟨76, 47, 76, 50⟩) ⟨76, 45, 76, 51⟩) ⟨76, 35, 76, 51⟩) .nil))) ⟨76, 10, 76, 52⟩)
noncomputable def lb_lev_1 : MSs := (.cons (.aug 3 ⟨77, 8, 77, 11⟩ .Add (.int 1 0 ⟨77, 15, 77, 16⟩) ⟨77, 8, 77, 16⟩)
  .nil)
noncomputable def tb_lev_2 : MB := (.boo .And (.cons (.val (.slc (.var 0 ⟨81, 10, 81, 11⟩) .none (.some (.or2 (.var 4 ⟨81, 13, 81, 17⟩) (.non 0 ⟨81, 21, 81, 25⟩) ⟨81, 13, 81, 25⟩)) .none ⟨81, 10, 81, 26⟩ ⟨81, 12, 81, 25⟩)) (.cons (.val (.slc (.var 1 ⟨81, 31, 81, 32⟩) .none (.some (.or2 (.var 4 ⟨81, 34, 81, 38⟩) (.non 0 ⟨81, 42, 81, 46⟩) ⟨81, 34, 81, 46⟩)) .none ⟨81, 31, 81, 47⟩ ⟨81, 33, 81, 46⟩)) (.cons (.cmp .Eq (.sub (.var 0 ⟨81, 53, 81, 54⟩) (.bin .Sub (.var 4 ⟨81, 55, 81, 59⟩) (.int 1 0 ⟨81, 62, 81, 63⟩) ⟨81, 55, 81, 63⟩) ⟨81, 53, 81, 64⟩) (.sub (.var 1 ⟨81, 68, 81, 69⟩) (.bin .Sub (.var 4 ⟨81, 70, 81, 74⟩) (.int 1 0 ⟨81, 77, 81, 78⟩) ⟨81, 70, 81, 78⟩) ⟨81, 68, 81, 79⟩) ⟨81, 53, 81, 79⟩) .nil))) ⟨81, 10, 81, 80⟩)
noncomputable def lb_lev_3 : MSs := (.cons (.aug 4 ⟨82, 8, 82, 12⟩ .Sub (.int 1 0 ⟨82, 16, 82, 17⟩) ⟨82, 8, 82, 17⟩)
  .nil)
noncomputable def lb_lev_4 : MSs := (.cons (.asg 12 ⟨100, 12, 100, 22⟩ (.bin .Add (.var 9 ⟨100, 25, 100, 33⟩) (.call .fn 4 (.cons (.var 8 ⟨100, 55, 100, 60⟩) (.cons (.sub (.var 0 ⟨100, 62, 100, 63⟩) (.var 11 ⟨100, 64, 100, 69⟩) ⟨100, 62, 100, 70⟩) .nil)) ⟨100, 36, 100, 54⟩ ⟨100, 36, 100, 71⟩) ⟨100, 25, 100, 71⟩) ⟨100, 12, 100, 71⟩)
  (.cons (.asg 9 ⟨101, 12, 101, 20⟩ (.sub (.var 5 ⟨101, 23, 101, 26⟩) (.var 11 ⟨101, 27, 101, 32⟩) ⟨101, 23, 101, 33⟩) ⟨101, 12, 101, 33⟩)
  (.cons (.asg 13 ⟨102, 12, 102, 25⟩ (.bin .Add (.call (.bi .min2) 18 (.cons (.var 6 ⟨102, 32, 102, 38⟩) (.cons (.var 9 ⟨102, 40, 102, 48⟩) .nil)) ⟨102, 28, 102, 31⟩ ⟨102, 28, 102, 49⟩) (.glb 2 ⟨102, 52, 102, 62⟩) ⟨102, 28, 102, 62⟩) ⟨102, 12, 102, 62⟩)
  (.cons (.asg 6 ⟨103, 12, 103, 18⟩ (.call (.bi .min2) 18 (.cons (.var 13 ⟨103, 25, 103, 38⟩) (.cons (.var 12 ⟨103, 40, 103, 50⟩) .nil)) ⟨103, 21, 103, 24⟩ ⟨103, 21, 103, 51⟩) ⟨103, 12, 103, 51⟩)
  (.cons (.ssub (.var 5 ⟨104, 12, 104, 15⟩) (.var 11 ⟨104, 16, 104, 21⟩) ⟨104, 12, 104, 22⟩ (.var 6 ⟨104, 25, 104, 31⟩) ⟨104, 12, 104, 31⟩)
  (.cons (.iff (.cmp .Lt (.var 6 ⟨105, 15, 105, 21⟩) (.var 10 ⟨105, 24, 105, 31⟩) ⟨105, 15, 105, 31⟩) (.cons (.asg 10 ⟨106, 16, 106, 23⟩ (.var 6 ⟨106, 26, 106, 32⟩) ⟨106, 16, 106, 32⟩)
  .nil) .nil ⟨105, 12, 106, 32⟩)
  .nil))))))
noncomputable def tl_lev_5 : MSs := (.cons (.iff (.cmp .Gt (.var 10 ⟨107, 11, 107, 18⟩) (.var 2 ⟨107, 21, 107, 29⟩) ⟨107, 11, 107, 29⟩) (.cons (.ret (.bin .Add (.var 2 ⟨108, 19, 108, 27⟩) (.int 1 0 ⟨108, 30, 108, 31⟩) ⟨108, 19, 108, 31⟩) ⟨108, 12, 108, 31⟩)
  .nil) .nil ⟨107, 8, 108, 31⟩)
  .nil)
noncomputable def lb_lev_6 : MSs := (.cons (.asg 8 ⟨96, 8, 96, 13⟩ (.sub (.var 1 ⟨96, 16, 96, 17⟩) (.var 7 ⟨96, 18, 96, 24⟩) ⟨96, 16, 96, 25⟩) ⟨96, 8, 96, 25⟩)
  (.cons (.asgs [(9, ⟨97, 8, 97, 16⟩), (6, ⟨97, 19, 97, 25⟩)] (.bin .Mult (.var 7 ⟨97, 28, 97, 34⟩) (.glb 2 ⟨97, 37, 97, 47⟩) ⟨97, 28, 97, 47⟩) ⟨97, 8, 97, 47⟩)
  (.cons (.asg 10 ⟨98, 8, 98, 15⟩ (.int 9223372036854775807 0 ⟨98, 18, 98, 37⟩) ⟨98, 8, 98, 37⟩)
  (.cons (.for_ (.nm 11 ⟨99, 12, 99, 17⟩) (.call (.bi .range1) 21 (.cons (.call (.bi .len) 16 (.cons (.var 0 ⟨99, 31, 99, 32⟩) .nil) ⟨99, 27, 99, 30⟩ ⟨99, 27, 99, 33⟩) .nil) ⟨99, 21, 99, 26⟩ ⟨99, 21, 99, 34⟩) lb_lev_4 ⟨99, 8, 106, 32⟩)
  tl_lev_5))))
noncomputable def tl_lev_7 : MSs := (.cons (.ret (.var 6 ⟨109, 11, 109, 17⟩) ⟨109, 4, 109, 17⟩)
  .nil)
noncomputable def tl_lev_8 : MSs := (.cons (.asg 5 ⟨93, 4, 93, 7⟩ (.call (.bi .list) 22 (.cons (.call (.bi .range3) 21 (.cons (.glb 2 ⟨93, 21, 93, 31⟩) (.cons (.bin .Mult (.glb 2 ⟨93, 33, 93, 43⟩) (.bin .Add (.call (.bi .len) 16 (.cons (.var 0 ⟨93, 51, 93, 52⟩) .nil) ⟨93, 47, 93, 50⟩ ⟨93, 47, 93, 53⟩) (.int 1 0 ⟨93, 56, 93, 57⟩) ⟨93, 47, 93, 57⟩) ⟨93, 33, 93, 58⟩) (.cons (.glb 2 ⟨93, 60, 93, 70⟩) .nil))) ⟨93, 15, 93, 20⟩ ⟨93, 15, 93, 71⟩) .nil) ⟨93, 10, 93, 14⟩ ⟨93, 10, 93, 72⟩) ⟨93, 4, 93, 72⟩)
  (.cons (.asg 6 ⟨94, 4, 94, 10⟩ (.int 0 0 ⟨94, 13, 94, 14⟩) ⟨94, 4, 94, 14⟩)
  (.cons (.for_ (.nm 7 ⟨95, 8, 95, 14⟩) (.call (.bi .range1) 21 (.cons (.call (.bi .len) 16 (.cons (.var 1 ⟨95, 28, 95, 29⟩) .nil) ⟨95, 24, 95, 27⟩ ⟨95, 24, 95, 30⟩) .nil) ⟨95, 18, 95, 23⟩ ⟨95, 18, 95, 31⟩) lb_lev_6 ⟨95, 4, 108, 31⟩)
  tl_lev_7)))
noncomputable def tl_lev_9 : MSs := (.cons (.iff (.cmp .Gt (.bin .Mult (.bin .Sub (.call (.bi .len) 16 (.cons (.var 1 ⟨91, 12, 91, 13⟩) .nil) ⟨91, 8, 91, 11⟩ ⟨91, 8, 91, 14⟩) (.call (.bi .len) 16 (.cons (.var 0 ⟨91, 21, 91, 22⟩) .nil) ⟨91, 17, 91, 20⟩ ⟨91, 17, 91, 23⟩) ⟨91, 8, 91, 23⟩) (.glb 2 ⟨91, 27, 91, 37⟩) ⟨91, 7, 91, 37⟩) (.var 2 ⟨91, 40, 91, 48⟩) ⟨91, 7, 91, 48⟩) (.cons (.ret (.bin .Add (.var 2 ⟨92, 15, 92, 23⟩) (.int 1 0 ⟨92, 26, 92, 27⟩) ⟨92, 15, 92, 27⟩) ⟨92, 8, 92, 27⟩)
  .nil) .nil ⟨91, 4, 92, 27⟩)
  tl_lev_8)
noncomputable def tl_lev_10 : MSs := (.cons (.iff (.cmp .Lt (.call (.bi .len) 16 (.cons (.var 1 ⟨89, 11, 89, 12⟩) .nil) ⟨89, 7, 89, 10⟩ ⟨89, 7, 89, 13⟩) (.call (.bi .len) 16 (.cons (.var 0 ⟨89, 20, 89, 21⟩) .nil) ⟨89, 16, 89, 19⟩ ⟨89, 16, 89, 22⟩) ⟨89, 7, 89, 22⟩) (.cons (.swap [(0, ⟨90, 8, 90, 9⟩), (1, ⟨90, 11, 90, 12⟩)] 0 ⟨90, 8, 90, 12⟩ (.cons (.var 1 ⟨90, 16, 90, 17⟩) (.cons (.var 0 ⟨90, 19, 90, 20⟩) .nil)) 0 ⟨90, 15, 90, 21⟩ ⟨90, 8, 90, 21⟩)
  .nil) .nil ⟨89, 4, 90, 21⟩)
  tl_lev_9)
noncomputable def tl_lev_11 : MSs := (.cons (.iff (.boo .Or (.cons (.cmp .Gt (.call (.bi .len) 16 (.cons (.var 0 ⟨87, 11, 87, 12⟩) .nil) ⟨87, 7, 87, 10⟩ ⟨87, 7, 87, 13⟩) (.glb 1 ⟨87, 16, 87, 32⟩) ⟨87, 7, 87, 32⟩) (.cons (.cmp .Gt (.call (.bi .len) 16 (.cons (.var 1 ⟨87, 40, 87, 41⟩) .nil) ⟨87, 36, 87, 39⟩ ⟨87, 36, 87, 42⟩) (.glb 1 ⟨87, 45, 87, 61⟩) ⟨87, 36, 87, 61⟩) .nil)) ⟨87, 7, 87, 61⟩) (.cons (.ret (.bin .Add (.var 2 ⟨88, 15, 88, 23⟩) (.int 1 0 ⟨88, 26, 88, 27⟩) ⟨88, 15, 88, 27⟩) ⟨88, 8, 88, 27⟩)
  .nil) .nil ⟨87, 4, 88, 27⟩)
  tl_lev_10)
noncomputable def tl_lev_12 : MSs := (.cons (.asg 0 ⟨83, 4, 83, 5⟩ (.slc (.var 0 ⟨83, 8, 83, 9⟩) .none (.some (.or2 (.var 4 ⟨83, 11, 83, 15⟩) (.non 0 ⟨83, 19, 83, 23⟩) ⟨83, 11, 83, 23⟩)) .none ⟨83, 8, 83, 24⟩ ⟨83, 10, 83, 23⟩) ⟨83, 4, 83, 24⟩)
  (.cons (.asg 1 ⟨84, 4, 84, 5⟩ (.slc (.var 1 ⟨84, 8, 84, 9⟩) .none (.some (.or2 (.var 4 ⟨84, 11, 84, 15⟩) (.non 0 ⟨84, 19, 84, 23⟩) ⟨84, 11, 84, 23⟩)) .none ⟨84, 8, 84, 24⟩ ⟨84, 10, 84, 23⟩) ⟨84, 4, 84, 24⟩)
  (.cons (.iff (.boo .Or (.cons (.not (.val (.var 0 ⟨85, 11, 85, 12⟩)) ⟨85, 7, 85, 12⟩) (.cons (.not (.val (.var 1 ⟨85, 20, 85, 21⟩)) ⟨85, 16, 85, 21⟩) .nil)) ⟨85, 7, 85, 21⟩) (.cons (.ret (.bin .Mult (.glb 2 ⟨86, 15, 86, 25⟩) (.bin .Add (.call (.bi .len) 16 (.cons (.var 0 ⟨86, 33, 86, 34⟩) .nil) ⟨86, 29, 86, 32⟩ ⟨86, 29, 86, 35⟩) (.call (.bi .len) 16 (.cons (.var 1 ⟨86, 42, 86, 43⟩) .nil) ⟨86, 38, 86, 41⟩ ⟨86, 38, 86, 44⟩) ⟨86, 29, 86, 44⟩) ⟨86, 15, 86, 45⟩) ⟨86, 8, 86, 45⟩)
  .nil) .nil ⟨85, 4, 86, 45⟩)
  tl_lev_11)))
noncomputable def tl_lev_13 : MSs := (.cons (.asg 0 ⟨78, 4, 78, 5⟩ (.slc (.var 0 ⟨78, 8, 78, 9⟩) (.some (.var 3 ⟨78, 10, 78, 13⟩)) .none .none ⟨78, 8, 78, 15⟩ ⟨78, 10, 78, 14⟩) ⟨78, 4, 78, 15⟩)
  (.cons (.asg 1 ⟨79, 4, 79, 5⟩ (.slc (.var 1 ⟨79, 8, 79, 9⟩) (.some (.var 3 ⟨79, 10, 79, 13⟩)) .none .none ⟨79, 8, 79, 15⟩ ⟨79, 10, 79, 14⟩) ⟨79, 4, 79, 15⟩)
  (.cons (.asg 4 ⟨80, 4, 80, 8⟩ (.int 0 0 ⟨80, 11, 80, 12⟩) ⟨80, 4, 80, 12⟩)
  (.cons (.whl tb_lev_2 lb_lev_3 ⟨81, 4, 82, 17⟩)
  tl_lev_12))))
noncomputable def tl_lev_14 : MSs := (.cons (.asg 3 ⟨75, 4, 75, 7⟩ (.int 0 0 ⟨75, 10, 75, 11⟩) ⟨75, 4, 75, 11⟩)
  (.cons (.whl tb_lev_0 lb_lev_1 ⟨76, 4, 77, 16⟩)
  tl_lev_13))
noncomputable def bd_lev : MSs := (.cons (.iff (.cmp .Eq (.var 0 ⟨73, 7, 73, 8⟩) (.var 1 ⟨73, 12, 73, 13⟩) ⟨73, 7, 73, 13⟩) (.cons (.ret (.int 0 0 ⟨74, 15, 74, 16⟩) ⟨74, 8, 74, 16⟩)
  .nil) .nil ⟨73, 4, 74, 16⟩)
  tl_lev_14)
noncomputable def nm_lev (i : Nat) : Str := ([Str.ofString "a", Str.ofString "b", Str.ofString "max_cost", Str.ofString "pre", Str.ofString "post", Str.ofString "row", Str.ofString "result", Str.ofString "bindex", Str.ofString "bchar", Str.ofString "distance", Str.ofString "minimum", Str.ofString "index", Str.ofString "substitute", Str.ofString "insert_delete", Str.ofString "!"] : List Str).getD i "?"
noncomputable def vis_lev : Vis := ⟨[0, 1, 2, 3, 4, 5, 6, 7, 8, 9, 10, 11, 12, 13], [], [0, 1, 2, 3, 4, 5, 6, 7, 8, 9, 10, 11, 12, 13], [2, 16, 1, 22, 21, 4, 18], []⟩
noncomputable def tl_wsi_0 : MSs := (.cons (.ssub (.var 4 ⟨23, 16, 23, 21⟩) (.var 5 ⟨23, 22, 23, 23⟩) ⟨23, 16, 23, 24⟩ (.bin .Add (.sub (.var 4 ⟨23, 27, 23, 32⟩) (.var 5 ⟨23, 33, 23, 34⟩) ⟨23, 27, 23, 35⟩) (.int 1 0 ⟨23, 38, 23, 39⟩) ⟨23, 27, 23, 39⟩) ⟨23, 16, 23, 39⟩)
  (.cons (.asg 5 ⟨24, 16, 24, 17⟩ (.int 0 0 ⟨24, 20, 24, 21⟩) ⟨24, 16, 24, 21⟩)
  .nil))
noncomputable def lb_wsi_1 : MSs := (.cons (.iff (.cmp .Eq (.var 8 ⟨15, 15, 15, 17⟩) (.var 2 ⟨15, 21, 15, 22⟩) ⟨15, 15, 15, 22⟩) (.cons (.asg 6 ⟨16, 16, 16, 17⟩ (.bin .Add (.var 6 ⟨16, 20, 16, 21⟩) (.int 1 0 ⟨16, 24, 16, 25⟩) ⟨16, 20, 16, 25⟩) ⟨16, 16, 16, 25⟩)
  (.cons (.asg 5 ⟨17, 16, 17, 17⟩ (.bin .Add (.var 5 ⟨17, 20, 17, 21⟩) (.int 1 0 ⟨17, 24, 17, 25⟩) ⟨17, 20, 17, 25⟩) ⟨17, 16, 17, 25⟩)
  .nil)) (.cons (.iff (.cmp .Eq (.var 8 ⟨18, 17, 18, 19⟩) (.var 3 ⟨18, 23, 18, 24⟩) ⟨18, 17, 18, 24⟩) (.cons (.asg 6 ⟨19, 16, 19, 17⟩ (.bin .Add (.var 6 ⟨19, 20, 19, 21⟩) (.int 1 0 ⟨19, 24, 19, 25⟩) ⟨19, 20, 19, 25⟩) ⟨19, 16, 19, 25⟩)
  (.cons (.asg 7 ⟨20, 16, 20, 18⟩ (.bin .Add (.var 7 ⟨20, 21, 20, 23⟩) (.int 1 0 ⟨20, 26, 20, 27⟩) ⟨20, 21, 20, 27⟩) ⟨20, 16, 20, 27⟩)
  (.cons (.iff (.cmp .GtE (.var 5 ⟨21, 19, 21, 20⟩) (.call (.bi .len) 16 (.cons (.var 4 ⟨21, 28, 21, 33⟩) .nil) ⟨21, 24, 21, 27⟩ ⟨21, 24, 21, 34⟩) ⟨21, 19, 21, 34⟩) (.cons (.asg 4 ⟨22, 20, 22, 25⟩ (.bin .Add (.var 4 ⟨22, 28, 22, 33⟩) (.bin .Mult (.lst false (.cons (.int 0 0 ⟨22, 37, 22, 38⟩) .nil) ⟨22, 36, 22, 39⟩) (.bin .Add (.bin .Sub (.var 5 ⟨22, 43, 22, 44⟩) (.call (.bi .len) 16 (.cons (.var 4 ⟨22, 51, 22, 56⟩) .nil) ⟨22, 47, 22, 50⟩ ⟨22, 47, 22, 57⟩) ⟨22, 43, 22, 57⟩) (.int 1 0 ⟨22, 60, 22, 61⟩) ⟨22, 43, 22, 61⟩) ⟨22, 36, 22, 62⟩) ⟨22, 28, 22, 62⟩) ⟨22, 20, 22, 62⟩)
  .nil) .nil ⟨21, 16, 22, 62⟩)
  tl_wsi_0))) (.cons (.brk ⟨26, 16, 26, 21⟩)
  .nil) ⟨18, 12, 26, 21⟩)
  .nil) ⟨15, 12, 26, 21⟩)
  .nil)
noncomputable def tl_wsi_2 : MSs := (.cons (.satt (.var 0 ⟨27, 8, 27, 12⟩) 1 ⟨27, 8, 27, 14⟩ (.var 6 ⟨27, 17, 27, 18⟩) ⟨27, 8, 27, 18⟩)
  (.cons (.satt (.var 0 ⟨28, 8, 28, 12⟩) 2 ⟨28, 8, 28, 15⟩ (.var 7 ⟨28, 18, 28, 20⟩) ⟨28, 8, 28, 20⟩)
  (.cons (.satt (.var 0 ⟨29, 8, 29, 12⟩) 3 ⟨29, 8, 29, 17⟩ (.tup (.cons (.call (.bi .tuple) 24 (.cons (.var 4 ⟨29, 27, 29, 32⟩) .nil) ⟨29, 21, 29, 26⟩ ⟨29, 21, 29, 33⟩) (.cons (.var 5 ⟨29, 35, 29, 36⟩) .nil)) 0 ⟨29, 20, 29, 37⟩) ⟨29, 8, 29, 37⟩)
  (.cons (.satt (.var 0 ⟨30, 8, 30, 12⟩) 4 ⟨30, 8, 30, 22⟩ (.cmp .LtE (.call (.bi .len) 16 (.cons (.var 4 ⟨30, 29, 30, 34⟩) .nil) ⟨30, 25, 30, 28⟩ ⟨30, 25, 30, 35⟩) (.int 1 0 ⟨30, 39, 30, 40⟩) ⟨30, 25, 30, 40⟩) ⟨30, 8, 30, 40⟩)
  .nil))))
noncomputable def bd_wsi : MSs := (.cons (.satt (.var 0 ⟨10, 8, 10, 12⟩) 0 ⟨10, 8, 10, 16⟩ (.var 1 ⟨10, 19, 10, 21⟩) ⟨10, 8, 10, 21⟩)
  (.cons (.swap [(2, ⟨11, 8, 11, 9⟩), (3, ⟨11, 11, 11, 12⟩)] 0 ⟨11, 8, 11, 12⟩ (.cons (.catt 0 ⟨11, 16, 11, 26⟩ ⟨11, 16, 11, 28⟩) (.cons (.catt 1 ⟨11, 30, 11, 40⟩ ⟨11, 30, 11, 42⟩) .nil)) 0 ⟨11, 15, 11, 43⟩ ⟨11, 8, 11, 43⟩)
  (.cons (.asg 4 ⟨12, 8, 12, 13⟩ (.lst true .nil ⟨12, 16, 12, 18⟩) ⟨12, 8, 12, 18⟩)
  (.cons (.asgs [(5, ⟨13, 8, 13, 9⟩), (6, ⟨13, 12, 13, 13⟩), (7, ⟨13, 16, 13, 18⟩)] (.int 0 0 ⟨13, 21, 13, 22⟩) ⟨13, 8, 13, 22⟩)
  (.cons (.for_ (.nm 8 ⟨14, 12, 14, 14⟩) (.att (.var 0 ⟨14, 18, 14, 22⟩) 0 ⟨14, 18, 14, 26⟩) lb_wsi_1 ⟨14, 8, 26, 21⟩)
  tl_wsi_2)))))
noncomputable def nm_wsi (i : Nat) : Str := ([Str.ofString "self", Str.ofString "ws", Str.ofString "S", Str.ofString "T", Str.ofString "count", Str.ofString "b", Str.ofString "n", Str.ofString "nt", Str.ofString "ch", Str.ofString "!"] : List Str).getD i "?"
noncomputable def vis_wsi : Vis := ⟨[0, 1, 2, 3, 4, 5, 6, 7, 8], [], [0, 1, 2, 3, 4, 5, 6, 7, 8], [0, 16, 24], []⟩
noncomputable def bd_run : MSs := (.cons (.unp [(1, ⟨33, 8, 33, 13⟩), (2, ⟨33, 15, 33, 23⟩)] 0 ⟨33, 8, 33, 23⟩ (.att (.var 0 ⟨33, 26, 33, 30⟩) 3 ⟨33, 26, 33, 35⟩) ⟨33, 8, 33, 35⟩)
  (.cons (.ret (.call (.bi .max2) 17 (.cons (.bin .Sub (.call (.bi .len) 16 (.cons (.var 1 ⟨34, 23, 34, 28⟩) .nil) ⟨34, 19, 34, 22⟩ ⟨34, 19, 34, 29⟩) (.int 1 0 ⟨34, 32, 34, 33⟩) ⟨34, 19, 34, 33⟩) (.cons (.var 2 ⟨34, 35, 34, 43⟩) .nil)) ⟨34, 15, 34, 18⟩ ⟨34, 15, 34, 44⟩) ⟨34, 8, 34, 44⟩)
  .nil))
noncomputable def nm_run (i : Nat) : Str := ([Str.ofString "self", Str.ofString "count", Str.ofString "trailing", Str.ofString "!"] : List Str).getD i "?"
noncomputable def vis_run : Vis := ⟨[0, 1, 2], [], [0, 1, 2], [17, 16], []⟩
noncomputable def lb_ind_0 : MSs := (.cons (.asg 4 ⟨40, 12, 40, 14⟩ (.bin .Add (.var 4 ⟨40, 17, 40, 19⟩) (.bin .Mult (.bin .FloorDiv (.var 5 ⟨40, 22, 40, 23⟩) (.var 1 ⟨40, 27, 40, 34⟩) ⟨40, 22, 40, 34⟩) (.sub (.var 2 ⟨40, 37, 40, 42⟩) (.var 5 ⟨40, 43, 40, 44⟩) ⟨40, 37, 40, 45⟩) ⟨40, 22, 40, 45⟩) ⟨40, 17, 40, 45⟩) ⟨40, 12, 40, 45⟩)
  .nil)
noncomputable def tl_ind_1 : MSs := (.cons (.ret (.bin .Add (.var 3 ⟨41, 15, 41, 23⟩) (.bin .Mult (.var 1 ⟨41, 26, 41, 33⟩) (.bin .Add (.var 4 ⟨41, 37, 41, 39⟩) (.att (.var 0 ⟨41, 42, 41, 46⟩) 2 ⟨41, 42, 41, 49⟩) ⟨41, 37, 41, 49⟩) ⟨41, 26, 41, 50⟩) ⟨41, 15, 41, 50⟩) ⟨41, 8, 41, 50⟩)
  .nil)
noncomputable def bd_ind : MSs := (.cons (.unp [(2, ⟨37, 8, 37, 13⟩), (3, ⟨37, 15, 37, 23⟩)] 0 ⟨37, 8, 37, 23⟩ (.att (.var 0 ⟨37, 26, 37, 30⟩) 3 ⟨37, 26, 37, 35⟩) ⟨37, 8, 37, 35⟩)
  (.cons (.asg 4 ⟨38, 8, 38, 10⟩ (.int 0 0 ⟨38, 13, 38, 14⟩) ⟨38, 8, 38, 14⟩)
  (.cons (.for_ (.nm 5 ⟨39, 12, 39, 13⟩) (.call (.bi .range2) 21 (.cons (.var 1 ⟨39, 23, 39, 30⟩) (.cons (.call (.bi .len) 16 (.cons (.var 2 ⟨39, 36, 39, 41⟩) .nil) ⟨39, 32, 39, 35⟩ ⟨39, 32, 39, 42⟩) .nil)) ⟨39, 17, 39, 22⟩ ⟨39, 17, 39, 43⟩) lb_ind_0 ⟨39, 8, 40, 45⟩)
  tl_ind_1)))
noncomputable def nm_ind (i : Nat) : Str := ([Str.ofString "self", Str.ofString "tabsize", Str.ofString "count", Str.ofString "trailing", Str.ofString "il", Str.ofString "i", Str.ofString "!"] : List Str).getD i "?"
noncomputable def vis_ind : Vis := ⟨[0, 1, 2, 3, 4, 5], [], [0, 1, 2, 3, 4, 5], [21, 16], []⟩
noncomputable def lb_less_0 : MSs := (.cons (.iff (.cmp .GtE (.meth (.user 1) (.var 0 ⟨56, 15, 56, 19⟩) (.cons (.var 3 ⟨56, 33, 56, 35⟩) .nil) none ⟨56, 15, 56, 32⟩ ⟨56, 15, 56, 36⟩) (.meth (.user 1) (.var 1 ⟨56, 40, 56, 45⟩) (.cons (.var 3 ⟨56, 59, 56, 61⟩) .nil) none ⟨56, 40, 56, 58⟩ ⟨56, 40, 56, 62⟩) ⟨56, 15, 56, 62⟩) (.cons (.ret (.bool false 0 ⟨57, 23, 57, 28⟩) ⟨57, 16, 57, 28⟩)
  .nil) .nil ⟨56, 12, 57, 28⟩)
  .nil)
noncomputable def tl_less_1 : MSs := (.cons (.ret (.bool true 0 ⟨58, 15, 58, 19⟩) ⟨58, 8, 58, 19⟩)
  .nil)
noncomputable def tl_less_2 : MSs := (.cons (.asg 2 ⟨54, 8, 54, 9⟩ (.bin .Add (.call (.bi .max2) 17 (.cons (.meth (.user 0) (.var 0 ⟨54, 16, 54, 20⟩) .nil none ⟨54, 16, 54, 42⟩ ⟨54, 16, 54, 44⟩) (.cons (.meth (.user 0) (.var 1 ⟨54, 46, 54, 51⟩) .nil none ⟨54, 46, 54, 73⟩ ⟨54, 46, 54, 75⟩) .nil)) ⟨54, 12, 54, 15⟩ ⟨54, 12, 54, 76⟩) (.int 1 0 ⟨54, 79, 54, 80⟩) ⟨54, 12, 54, 80⟩) ⟨54, 8, 54, 80⟩)
  (.cons (.for_ (.nm 3 ⟨55, 12, 55, 14⟩) (.call (.bi .range2) 21 (.cons (.int 2 0 ⟨55, 24, 55, 25⟩) (.cons (.bin .Add (.var 2 ⟨55, 27, 55, 28⟩) (.int 1 0 ⟨55, 31, 55, 32⟩) ⟨55, 27, 55, 32⟩) .nil)) ⟨55, 18, 55, 23⟩ ⟨55, 18, 55, 33⟩) lb_less_0 ⟨55, 8, 57, 28⟩)
  tl_less_1))
noncomputable def tl_less_3 : MSs := (.cons (.iff (.boo .And (.cons (.val (.att (.var 0 ⟨52, 11, 52, 15⟩) 4 ⟨52, 11, 52, 25⟩)) (.cons (.val (.att (.var 1 ⟨52, 30, 52, 35⟩) 4 ⟨52, 30, 52, 45⟩)) .nil)) ⟨52, 11, 52, 45⟩) (.cons (.ret (.cmp .LtE (.att (.var 0 ⟨53, 19, 53, 23⟩) 2 ⟨53, 19, 53, 26⟩) (.att (.var 1 ⟨53, 30, 53, 35⟩) 2 ⟨53, 30, 53, 38⟩) ⟨53, 19, 53, 38⟩) ⟨53, 12, 53, 38⟩)
  .nil) .nil ⟨52, 8, 53, 38⟩)
  tl_less_2)
noncomputable def bd_less : MSs := (.cons (.iff (.cmp .GtE (.att (.var 0 ⟨50, 11, 50, 15⟩) 1 ⟨50, 11, 50, 17⟩) (.att (.var 1 ⟨50, 21, 50, 26⟩) 1 ⟨50, 21, 50, 28⟩) ⟨50, 11, 50, 28⟩) (.cons (.ret (.bool false 0 ⟨51, 19, 51, 24⟩) ⟨51, 12, 51, 24⟩)
  .nil) .nil ⟨50, 8, 51, 24⟩)
  tl_less_3)
noncomputable def nm_less (i : Nat) : Str := ([Str.ofString "self", Str.ofString "other", Str.ofString "n", Str.ofString "ts", Str.ofString "!"] : List Str).getD i "?"
noncomputable def vis_less : Vis := ⟨[0, 1, 2, 3], [], [0, 1, 2, 3], [17, 21], []⟩
noncomputable def raw_hdi_0 : Stmt := PySem.Stmt.Raise
  (Option.some
    (PySem.Expr.Call
      (PySem.Expr.Name (PySem.Str.ofString "TypeError") { line := 128, col := 18, endLine := 128, endCol := 27 })
      [PySem.Expr.Constant (PySem.Const.str (PySem.Str.ofString "Headers must be a list of name/value tuples")) 0
          { line := 128, col := 28, endLine := 128, endCol := 73 }]
      [] { line := 128, col := 18, endLine := 128, endCol := 74 }))
  Option.none { line := 128, col := 12, endLine := 128, endCol := 74 }
noncomputable def lb_hdi_0 : MSs := (.cons (.exp (.meth (.user 3) (.var 0 ⟨132, 16, 132, 20⟩) (.cons (.var 2 ⟨132, 42, 132, 43⟩) .nil) (some (true, 0, ⟨132, 50, 132, 54⟩, ⟨132, 45, 132, 54⟩)) ⟨132, 16, 132, 41⟩ ⟨132, 16, 132, 55⟩) ⟨132, 16, 132, 55⟩)
  (.cons (.exp (.meth (.user 3) (.var 0 ⟨133, 16, 133, 20⟩) (.cons (.var 3 ⟨133, 42, 133, 43⟩) .nil) (some (false, 0, ⟨133, 50, 133, 55⟩, ⟨133, 45, 133, 55⟩)) ⟨133, 16, 133, 41⟩ ⟨133, 16, 133, 56⟩) ⟨133, 16, 133, 56⟩)
  .nil))
noncomputable def tl_hdi_1 : MSs := (.cons (.satt (.var 0 ⟨129, 8, 129, 12⟩) 5 ⟨129, 8, 129, 21⟩ (.var 1 ⟨129, 24, 129, 31⟩) ⟨129, 8, 129, 31⟩)
  (.cons (.iff (.val (.bool true 0 ⟨130, 11, 130, 20⟩)) (.cons (.for_ (.tup [(2, ⟨131, 16, 131, 17⟩), (3, ⟨131, 19, 131, 20⟩)] 0 ⟨131, 16, 131, 20⟩) (.var 1 ⟨131, 24, 131, 31⟩) lb_hdi_0 ⟨131, 12, 133, 56⟩)
  .nil) .nil ⟨130, 8, 133, 56⟩)
  .nil))
noncomputable def bd_hdi : MSs := (.cons (.asg 1 ⟨126, 8, 126, 15⟩ (.ife (.cmp .IsNot (.var 1 ⟨126, 29, 126, 36⟩) (.non 0 ⟨126, 44, 126, 48⟩) ⟨126, 29, 126, 48⟩) (.var 1 ⟨126, 18, 126, 25⟩) (.lst true .nil ⟨126, 54, 126, 56⟩) ⟨126, 18, 126, 56⟩) ⟨126, 8, 126, 56⟩)
  (.cons (.iff (.cmp .IsNot (.call (.bi .type) 25 (.cons (.var 1 ⟨127, 16, 127, 23⟩) .nil) ⟨127, 11, 127, 15⟩ ⟨127, 11, 127, 24⟩) (.glb 22 ⟨127, 32, 127, 36⟩) ⟨127, 11, 127, 36⟩) (.cons (.raw raw_hdi_0)
  .nil) .nil ⟨127, 8, 128, 74⟩)
  tl_hdi_1))
noncomputable def nm_hdi (i : Nat) : Str := ([Str.ofString "self", Str.ofString "headers", Str.ofString "k", Str.ofString "v", Str.ofString "!"] : List Str).getD i "?"
noncomputable def vis_hdi : Vis := ⟨[0, 1, 2, 3], [], [0, 1, 2, 3], [25, 22], []⟩
noncomputable def raw_conv_0 : Stmt := PySem.Stmt.Raise
  (Option.some
    (PySem.Expr.Call
      (PySem.Expr.Name (PySem.Str.ofString "ValueError") { line := 139, col := 22, endLine := 139, endCol := 32 })
      [PySem.Expr.Constant (PySem.Const.str (PySem.Str.ofString "Control characters not allowed in headers")) 0
          { line := 139, col := 33, endLine := 139, endCol := 76 }]
      [] { line := 139, col := 22, endLine := 139, endCol := 77 }))
  Option.none { line := 139, col := 16, endLine := 139, endCol := 77 }
noncomputable def raw_conv_1 : Stmt := PySem.Stmt.Raise
  (Option.some
    (PySem.Expr.Call
      (PySem.Expr.Name (PySem.Str.ofString "AssertionError") { line := 141, col := 14, endLine := 141, endCol := 28 })
      [PySem.Expr.Call
          (PySem.Expr.Attribute
            (PySem.Expr.Constant
              (PySem.Const.str (PySem.Str.ofString "Header names/values must be of type str (got {0})")) 0
              { line := 141, col := 29, endLine := 141, endCol := 80 })
            (PySem.Str.ofString "format") { line := 141, col := 29, endLine := 141, endCol := 87 })
          [PySem.Expr.Call
              (PySem.Expr.Name (PySem.Str.ofString "repr") { line := 141, col := 88, endLine := 141, endCol := 92 })
              [PySem.Expr.Name (PySem.Str.ofString "value") { line := 141, col := 93, endLine := 141, endCol := 98 }] []
              { line := 141, col := 88, endLine := 141, endCol := 99 }]
          [] { line := 141, col := 29, endLine := 141, endCol := 100 }]
      [] { line := 141, col := 14, endLine := 141, endCol := 101 }))
  Option.none { line := 141, col := 8, endLine := 141, endCol := 101 }
noncomputable def tl_conv_0 : MSs := (.cons (.ret (.var 1 ⟨140, 19, 140, 24⟩) ⟨140, 12, 140, 24⟩)
  .nil)
noncomputable def tl_conv_1 : MSs := (.cons (.raw raw_conv_1)
  .nil)
noncomputable def bd_conv : MSs := (.cons (.iff (.cmp .Is (.call (.bi .type) 25 (.cons (.var 1 ⟨136, 16, 136, 21⟩) .nil) ⟨136, 11, 136, 15⟩ ⟨136, 11, 136, 22⟩) (.glb 26 ⟨136, 26, 136, 29⟩) ⟨136, 11, 136, 29⟩) (.cons (.asg 3 ⟨137, 12, 137, 17⟩ (.ife (.val (.var 2 ⟨137, 43, 137, 47⟩)) (.glb 6 ⟨137, 20, 137, 39⟩) (.glb 7 ⟨137, 53, 137, 73⟩) ⟨137, 20, 137, 73⟩) ⟨137, 12, 137, 73⟩)
  (.cons (.iff (.val (.meth (.bi .search) (.var 3 ⟨138, 15, 138, 20⟩) (.cons (.var 1 ⟨138, 28, 138, 33⟩) .nil) none ⟨138, 15, 138, 27⟩ ⟨138, 15, 138, 34⟩)) (.cons (.raw raw_conv_0)
  .nil) .nil ⟨138, 12, 139, 77⟩)
  tl_conv_0)) .nil ⟨136, 8, 140, 24⟩)
  tl_conv_1)
noncomputable def nm_conv (i : Nat) : Str := ([Str.ofString "self", Str.ofString "value", Str.ofString "name", Str.ofString "regex", Str.ofString "!"] : List Str).getD i "?"
noncomputable def vis_conv : Vis := ⟨[0, 1, 2, 3], [], [0, 1, 2, 3], [25, 26, 6, 7], []⟩
noncomputable def bd_get : MSs := (.cons (.asg 1 ⟨161, 8, 161, 12⟩ (.meth (.user 3) (.var 0 ⟨161, 15, 161, 19⟩) (.cons (.meth (.bi .lower) (.var 1 ⟨161, 41, 161, 45⟩) .nil none ⟨161, 41, 161, 51⟩ ⟨161, 41, 161, 53⟩) .nil) (some (true, 0, ⟨161, 60, 161, 64⟩, ⟨161, 55, 161, 64⟩)) ⟨161, 15, 161, 40⟩ ⟨161, 15, 161, 65⟩) ⟨161, 8, 161, 65⟩)
  (.cons (.ret (.comp (.sub (.var 2 ⟨162, 16, 162, 18⟩) (.int 1 0 ⟨162, 19, 162, 20⟩) ⟨162, 16, 162, 21⟩) (.cons (.nm 2 ⟨162, 26, 162, 28⟩) (.att (.var 0 ⟨162, 32, 162, 36⟩) 5 ⟨162, 32, 162, 45⟩) (.cons (.cmp .Eq (.meth (.bi .lower) (.sub (.var 2 ⟨162, 49, 162, 51⟩) (.int 0 0 ⟨162, 52, 162, 53⟩) ⟨162, 49, 162, 54⟩) .nil none ⟨162, 49, 162, 60⟩ ⟨162, 49, 162, 62⟩) (.var 1 ⟨162, 66, 162, 70⟩) ⟨162, 49, 162, 70⟩) .nil) .nil) [2] ⟨[2, 1], [1], [2], [], []⟩ { kind := .function, names := [((Str.ofString ".0"), .local), ((Str.ofString "kv"), .local), ((Str.ofString "name"), .free)], isGenerator := false, isCoroutine := false, more := [] } ⟨162, 15, 162, 71⟩) ⟨162, 8, 162, 71⟩)
  .nil))
noncomputable def nm_get (i : Nat) : Str := ([Str.ofString "self", Str.ofString "name", Str.ofString "kv", Str.ofString "!"] : List Str).getD i "?"
noncomputable def vis_get : Vis := ⟨[0, 1], [1], [0, 1], [], [2]⟩
noncomputable def tl_add_0 : MSs := (.cons (.exp (.meth (.bi .append) (.att (.var 0 ⟨204, 8, 204, 12⟩) 5 ⟨204, 8, 204, 21⟩) (.cons (.tup (.cons (.meth (.user 3) (.var 0 ⟨204, 30, 204, 34⟩) (.cons (.var 1 ⟨204, 56, 204, 61⟩) .nil) (some (true, 0, ⟨204, 68, 204, 72⟩, ⟨204, 63, 204, 72⟩)) ⟨204, 30, 204, 55⟩ ⟨204, 30, 204, 73⟩) (.cons (.meth (.bi .join) (.str (Str.ofString "; ") 0 ⟨204, 75, 204, 79⟩) (.cons (.var 4 ⟨204, 85, 204, 90⟩) .nil) none ⟨204, 75, 204, 84⟩ ⟨204, 75, 204, 91⟩) .nil)) 0 ⟨204, 29, 204, 92⟩) .nil) none ⟨204, 8, 204, 28⟩ ⟨204, 8, 204, 93⟩) ⟨204, 8, 204, 93⟩)
  .nil)
noncomputable def tl_add_1 : MSs := (.cons (.forE (.tup [(5, ⟨197, 12, 197, 13⟩), (6, ⟨197, 15, 197, 16⟩)] 0 ⟨197, 12, 197, 16⟩) 3 ⟨197, 20, 197, 27⟩ ⟨197, 20, 197, 33⟩ ⟨197, 20, 197, 35⟩ (.cons (.asg 5 ⟨198, 12, 198, 13⟩ (.meth (.user 3) (.var 0 ⟨198, 16, 198, 20⟩) (.cons (.var 5 ⟨198, 42, 198, 43⟩) .nil) (some (true, 0, ⟨198, 50, 198, 54⟩, ⟨198, 45, 198, 54⟩)) ⟨198, 16, 198, 41⟩ ⟨198, 16, 198, 55⟩) ⟨198, 12, 198, 55⟩)
  (.cons (.iff (.cmp .Is (.var 6 ⟨199, 15, 199, 16⟩) (.non 0 ⟨199, 20, 199, 24⟩) ⟨199, 15, 199, 24⟩) (.cons (.exp (.meth (.bi .append) (.var 4 ⟨200, 16, 200, 21⟩) (.cons (.repl (.var 5 ⟨200, 29, 200, 30⟩) 95 0 ⟨200, 39, 200, 42⟩ 45 0 ⟨200, 44, 200, 47⟩ ⟨200, 29, 200, 38⟩ ⟨200, 29, 200, 48⟩) .nil) none ⟨200, 16, 200, 28⟩ ⟨200, 16, 200, 49⟩) ⟨200, 16, 200, 49⟩)
  .nil) (.cons (.asg 6 ⟨202, 16, 202, 17⟩ (.meth (.user 3) (.var 0 ⟨202, 20, 202, 24⟩) (.cons (.var 6 ⟨202, 46, 202, 47⟩) .nil) (some (false, 0, ⟨202, 54, 202, 59⟩, ⟨202, 49, 202, 59⟩)) ⟨202, 20, 202, 45⟩ ⟨202, 20, 202, 60⟩) ⟨202, 16, 202, 60⟩)
  (.cons (.exp (.meth (.bi .append) (.var 4 ⟨203, 16, 203, 21⟩) (.cons (.call .fn 8 (.cons (.repl (.var 5 ⟨203, 42, 203, 43⟩) 95 0 ⟨203, 52, 203, 55⟩ 45 0 ⟨203, 57, 203, 60⟩ ⟨203, 42, 203, 51⟩ ⟨203, 42, 203, 61⟩) (.cons (.var 6 ⟨203, 63, 203, 64⟩) .nil)) ⟨203, 29, 203, 41⟩ ⟨203, 29, 203, 65⟩) .nil) none ⟨203, 16, 203, 28⟩ ⟨203, 16, 203, 66⟩) ⟨203, 16, 203, 66⟩)
  .nil)) ⟨199, 12, 203, 66⟩)
  .nil)) ⟨197, 8, 203, 66⟩)
  tl_add_0)
noncomputable def bd_add : MSs := (.cons (.asg 4 ⟨193, 8, 193, 13⟩ (.lst true .nil ⟨193, 16, 193, 18⟩) ⟨193, 8, 193, 18⟩)
  (.cons (.iff (.cmp .IsNot (.var 2 ⟨194, 11, 194, 17⟩) (.non 0 ⟨194, 25, 194, 29⟩) ⟨194, 11, 194, 29⟩) (.cons (.asg 2 ⟨195, 12, 195, 18⟩ (.meth (.user 3) (.var 0 ⟨195, 21, 195, 25⟩) (.cons (.var 2 ⟨195, 47, 195, 53⟩) .nil) (some (false, 0, ⟨195, 60, 195, 65⟩, ⟨195, 55, 195, 65⟩)) ⟨195, 21, 195, 46⟩ ⟨195, 21, 195, 66⟩) ⟨195, 12, 195, 66⟩)
  (.cons (.exp (.meth (.bi .append) (.var 4 ⟨196, 12, 196, 17⟩) (.cons (.var 2 ⟨196, 25, 196, 31⟩) .nil) none ⟨196, 12, 196, 24⟩ ⟨196, 12, 196, 32⟩) ⟨196, 12, 196, 32⟩)
  .nil)) .nil ⟨194, 8, 196, 32⟩)
  tl_add_1))
noncomputable def nm_add (i : Nat) : Str := ([Str.ofString "self", Str.ofString "_name", Str.ofString "_value", Str.ofString "_params", Str.ofString "parts", Str.ofString "k", Str.ofString "v", Str.ofString "!"] : List Str).getD i "?"
noncomputable def vis_add : Vis := ⟨[0, 1, 2, 3, 4, 5, 6], [], [0, 1, 2, 3, 4, 5, 6], [8], []⟩
noncomputable def bd_lead : MSs := (.cons (.asg 2 ⟨207, 4, 207, 8⟩ (.bin .Mult (.str (Str.ofString "\t") 0 ⟨207, 11, 207, 15⟩) (.bin .Mod (.var 0 ⟨207, 19, 207, 25⟩) (.int 4 0 ⟨207, 28, 207, 29⟩) ⟨207, 19, 207, 29⟩) ⟨207, 11, 207, 30⟩) ⟨207, 4, 207, 30⟩)
  (.cons (.asg 3 ⟨208, 4, 208, 8⟩ (.sub (.lst false (.cons (.var 1 ⟨208, 12, 208, 15⟩) (.cons (.slc (.var 1 ⟨208, 17, 208, 20⟩) .none .none (.some (.un .USub (.int 1 0 ⟨208, 24, 208, 25⟩) ⟨208, 23, 208, 25⟩)) ⟨208, 17, 208, 26⟩ ⟨208, 21, 208, 25⟩) .nil)) ⟨208, 11, 208, 27⟩) (.bin .Mod (.bin .FloorDiv (.var 0 ⟨208, 28, 208, 34⟩) (.int 16 0 ⟨208, 38, 208, 40⟩) ⟨208, 28, 208, 40⟩) (.int 2 0 ⟨208, 43, 208, 44⟩) ⟨208, 28, 208, 44⟩) ⟨208, 11, 208, 45⟩) ⟨208, 4, 208, 45⟩)
  (.cons (.asg 4 ⟨209, 4, 209, 8⟩ (.meth (.bi .join) (.str (Str.ofString "") 0 ⟨209, 11, 209, 13⟩) (.cons (.comp (.bin .Add (.bin .Mult (.str (Str.ofString " ") 0 ⟨209, 20, 209, 23⟩) (.var 5 ⟨209, 26, 209, 29⟩) ⟨209, 20, 209, 29⟩) (.str (Str.ofString "\t") 0 ⟨209, 32, 209, 36⟩) ⟨209, 20, 209, 36⟩) (.cons (.nm 5 ⟨209, 41, 209, 44⟩) (.var 3 ⟨209, 48, 209, 52⟩) .nil .nil) [5] ⟨[5], [], [5], [], []⟩ { kind := .function, names := [((Str.ofString ".0"), .local), ((Str.ofString "run"), .local)], isGenerator := false, isCoroutine := false, more := [] } ⟨209, 19, 209, 53⟩) .nil) none ⟨209, 11, 209, 18⟩ ⟨209, 11, 209, 54⟩) ⟨209, 4, 209, 54⟩)
  (.cons (.ret (.bin .Add (.bin .Add (.sub (.lst false (.cons (.bin .Add (.var 2 ⟨210, 12, 210, 16⟩) (.var 4 ⟨210, 19, 210, 23⟩) ⟨210, 12, 210, 23⟩) (.cons (.bin .Add (.var 4 ⟨210, 25, 210, 29⟩) (.var 2 ⟨210, 32, 210, 36⟩) ⟨210, 25, 210, 36⟩) .nil)) ⟨210, 11, 210, 37⟩) (.bin .Mod (.bin .FloorDiv (.var 0 ⟨210, 38, 210, 44⟩) (.int 32 0 ⟨210, 48, 210, 50⟩) ⟨210, 38, 210, 50⟩) (.int 2 0 ⟨210, 53, 210, 54⟩) ⟨210, 38, 210, 54⟩) ⟨210, 11, 210, 55⟩) (.bin .Mult (.str (Str.ofString " ") 0 ⟨210, 58, 210, 61⟩) (.bin .Mod (.bin .FloorDiv (.var 0 ⟨210, 65, 210, 71⟩) (.int 4 0 ⟨210, 75, 210, 76⟩) ⟨210, 65, 210, 76⟩) (.int 4 0 ⟨210, 79, 210, 80⟩) ⟨210, 65, 210, 80⟩) ⟨210, 58, 210, 81⟩) ⟨210, 11, 210, 81⟩) (.str (Str.ofString "x\t") 0 ⟨210, 84, 210, 89⟩) ⟨210, 11, 210, 89⟩) ⟨210, 4, 210, 89⟩)
  .nil))))
noncomputable def nm_lead (i : Nat) : Str := ([Str.ofString "number", Str.ofString "bag", Str.ofString "tabs", Str.ofString "runs", Str.ofString "body", Str.ofString "run", Str.ofString "!"] : List Str).getD i "?"
noncomputable def vis_lead : Vis := ⟨[0, 1, 2, 3, 4], [], [0, 1, 2, 3, 4], [], [5]⟩
noncomputable def bd_bars : MSs := (.cons (.ret (.cmp .NotEq (.comp (.var 3 ⟨212, 12, 212, 15⟩) (.cons (.nm 3 ⟨212, 20, 212, 23⟩) (.var 0 ⟨212, 27, 212, 31⟩) (.cons (.cmp .Eq (.meth (.user 2) (.call .new 0 (.cons (.var 3 ⟨212, 46, 212, 49⟩) .nil) ⟨212, 35, 212, 45⟩ ⟨212, 35, 212, 50⟩) (.cons (.var 1 ⟨212, 56, 212, 60⟩) .nil) none ⟨212, 35, 212, 55⟩ ⟨212, 35, 212, 61⟩) (.var 2 ⟨212, 65, 212, 69⟩) ⟨212, 35, 212, 69⟩) .nil) .nil) [3] ⟨[3, 1, 2], [1, 2], [3], [0], []⟩ { kind := .function, names := [((Str.ofString ".0"), .local), ((Str.ofString "row"), .local), ((Str.ofString "Whitespace"), .globalImplicit), ((Str.ofString "lead"), .free), ((Str.ofString "told"), .free)], isGenerator := false, isCoroutine := false, more := [] } ⟨212, 11, 212, 70⟩) (.lst false .nil ⟨212, 74, 212, 76⟩) ⟨212, 11, 212, 76⟩) ⟨212, 4, 212, 76⟩)
  .nil)
noncomputable def nm_bars (i : Nat) : Str := ([Str.ofString "rows", Str.ofString "lead", Str.ofString "told", Str.ofString "row", Str.ofString "!"] : List Str).getD i "?"
noncomputable def vis_bars : Vis := ⟨[0, 1, 2], [1, 2], [0, 1, 2], [], [3]⟩
noncomputable def tb_cols_0 : MB := (.val (.call .fn 11 (.cons (.slc (.meth (.user 4) (.var 1 ⟨218, 24, 218, 29⟩) (.cons (.sub (.str (Str.ofString "pqrs") 0 ⟨218, 38, 218, 44⟩) (.var 4 ⟨218, 45, 218, 50⟩) ⟨218, 38, 218, 51⟩) .nil) none ⟨218, 24, 218, 37⟩ ⟨218, 24, 218, 52⟩) (.some (.un .USub (.int 1 0 ⟨218, 54, 218, 55⟩) ⟨218, 53, 218, 55⟩)) .none .none ⟨218, 24, 218, 57⟩ ⟨218, 53, 218, 56⟩) (.cons (.var 3 ⟨218, 59, 218, 63⟩) (.cons (.bool false 0 ⟨218, 65, 218, 70⟩) .nil))) ⟨218, 14, 218, 23⟩ ⟨218, 14, 218, 71⟩))
noncomputable def lb_cols_1 : MSs := (.cons (.asg 4 ⟨219, 12, 219, 17⟩ (.bin .Add (.var 4 ⟨219, 20, 219, 25⟩) (.int 1 0 ⟨219, 28, 219, 29⟩) ⟨219, 20, 219, 29⟩) ⟨219, 12, 219, 29⟩)
  .nil)
noncomputable def tl_cols_2 : MSs := (.cons (.exp (.meth (.user 5) (.var 1 ⟨220, 8, 220, 13⟩) (.cons (.sub (.str (Str.ofString "pPqQrRsS") 0 ⟨220, 25, 220, 35⟩) (.bin .Add (.bin .Mult (.int 2 0 ⟨220, 36, 220, 37⟩) (.var 4 ⟨220, 40, 220, 45⟩) ⟨220, 36, 220, 45⟩) (.bin .Mod (.var 2 ⟨220, 48, 220, 49⟩) (.int 2 0 ⟨220, 52, 220, 53⟩) ⟨220, 48, 220, 53⟩) ⟨220, 36, 220, 53⟩) ⟨220, 25, 220, 54⟩) (.cons (.sub (.var 0 ⟨220, 56, 220, 60⟩) (.var 2 ⟨220, 61, 220, 62⟩) ⟨220, 56, 220, 63⟩) .nil)) none ⟨220, 8, 220, 24⟩ ⟨220, 8, 220, 64⟩) ⟨220, 8, 220, 64⟩)
  .nil)
noncomputable def lb_cols_3 : MSs := (.cons (.asg 3 ⟨216, 8, 216, 12⟩ (.call .new 0 (.cons (.sub (.var 0 ⟨216, 26, 216, 30⟩) (.var 2 ⟨216, 31, 216, 32⟩) ⟨216, 26, 216, 33⟩) .nil) ⟨216, 15, 216, 25⟩ ⟨216, 15, 216, 34⟩) ⟨216, 8, 216, 34⟩)
  (.cons (.asg 4 ⟨217, 8, 217, 13⟩ (.int 0 0 ⟨217, 16, 217, 17⟩) ⟨217, 8, 217, 17⟩)
  (.cons (.whl tb_cols_0 lb_cols_1 ⟨218, 8, 219, 29⟩)
  tl_cols_2)))
noncomputable def tl_cols_4 : MSs := (.cons (.ret (.var 1 ⟨221, 11, 221, 16⟩) ⟨221, 4, 221, 16⟩)
  .nil)
noncomputable def bd_cols : MSs := (.cons (.asg 1 ⟨214, 4, 214, 9⟩ (.call .new 9 .nil ⟨214, 12, 214, 19⟩ ⟨214, 12, 214, 21⟩) ⟨214, 4, 214, 21⟩)
  (.cons (.for_ (.nm 2 ⟨215, 8, 215, 9⟩) (.call (.bi .range1) 21 (.cons (.int 4 0 ⟨215, 19, 215, 20⟩) .nil) ⟨215, 13, 215, 18⟩ ⟨215, 13, 215, 21⟩) lb_cols_3 ⟨215, 4, 220, 64⟩)
  tl_cols_4))
noncomputable def nm_cols (i : Nat) : Str := ([Str.ofString "rows", Str.ofString "table", Str.ofString "k", Str.ofString "lead", Str.ofString "place", Str.ofString "!"] : List Str).getD i "?"
noncomputable def vis_cols : Vis := ⟨[0, 1, 2, 3, 4], [], [0, 1, 2, 3, 4], [9, 21, 0, 11], []⟩
noncomputable def tb_lays_0 : MB := (.val (.call .fn 11 (.cons (.meth (.user 4) (.var 1 ⟨227, 24, 227, 29⟩) (.cons (.sub (.str (Str.ofString "PQRS") 0 ⟨227, 38, 227, 44⟩) (.var 4 ⟨227, 45, 227, 50⟩) ⟨227, 38, 227, 51⟩) .nil) none ⟨227, 24, 227, 37⟩ ⟨227, 24, 227, 52⟩) (.cons (.var 3 ⟨227, 54, 227, 58⟩) (.cons (.bool true 0 ⟨227, 60, 227, 64⟩) .nil))) ⟨227, 14, 227, 23⟩ ⟨227, 14, 227, 65⟩))
noncomputable def lb_lays_1 : MSs := (.cons (.asg 4 ⟨228, 12, 228, 17⟩ (.bin .Add (.var 4 ⟨228, 20, 228, 25⟩) (.int 1 0 ⟨228, 28, 228, 29⟩) ⟨228, 20, 228, 29⟩) ⟨228, 12, 228, 29⟩)
  .nil)
noncomputable def tl_lays_2 : MSs := (.cons (.exp (.meth (.user 5) (.var 1 ⟨229, 8, 229, 13⟩) (.cons (.sub (.str (Str.ofString "pPqQrRsS") 0 ⟨229, 25, 229, 35⟩) (.bin .Add (.bin .Mult (.int 2 0 ⟨229, 36, 229, 37⟩) (.var 4 ⟨229, 40, 229, 45⟩) ⟨229, 36, 229, 45⟩) (.bin .Mod (.var 2 ⟨229, 48, 229, 49⟩) (.int 2 0 ⟨229, 52, 229, 53⟩) ⟨229, 48, 229, 53⟩) ⟨229, 36, 229, 53⟩) ⟨229, 25, 229, 54⟩) (.cons (.sub (.var 0 ⟨229, 56, 229, 60⟩) (.var 2 ⟨229, 61, 229, 62⟩) ⟨229, 56, 229, 63⟩) .nil)) none ⟨229, 8, 229, 24⟩ ⟨229, 8, 229, 64⟩) ⟨229, 8, 229, 64⟩)
  .nil)
noncomputable def lb_lays_3 : MSs := (.cons (.asg 3 ⟨225, 8, 225, 12⟩ (.call .new 0 (.cons (.sub (.var 0 ⟨225, 26, 225, 30⟩) (.var 2 ⟨225, 31, 225, 32⟩) ⟨225, 26, 225, 33⟩) .nil) ⟨225, 15, 225, 25⟩ ⟨225, 15, 225, 34⟩) ⟨225, 8, 225, 34⟩)
  (.cons (.asg 4 ⟨226, 8, 226, 13⟩ (.int 0 0 ⟨226, 16, 226, 17⟩) ⟨226, 8, 226, 17⟩)
  (.cons (.whl tb_lays_0 lb_lays_1 ⟨227, 8, 228, 29⟩)
  tl_lays_2)))
noncomputable def tl_lays_4 : MSs := (.cons (.ret (.var 1 ⟨230, 11, 230, 16⟩) ⟨230, 4, 230, 16⟩)
  .nil)
noncomputable def bd_lays : MSs := (.cons (.asg 1 ⟨223, 4, 223, 9⟩ (.call .new 9 .nil ⟨223, 12, 223, 19⟩ ⟨223, 12, 223, 21⟩) ⟨223, 4, 223, 21⟩)
  (.cons (.for_ (.nm 2 ⟨224, 8, 224, 9⟩) (.call (.bi .range1) 21 (.cons (.int 4 0 ⟨224, 19, 224, 20⟩) .nil) ⟨224, 13, 224, 18⟩ ⟨224, 13, 224, 21⟩) lb_lays_3 ⟨224, 4, 229, 64⟩)
  tl_lays_4))
noncomputable def nm_lays (i : Nat) : Str := ([Str.ofString "rows", Str.ofString "table", Str.ofString "k", Str.ofString "lead", Str.ofString "place", Str.ofString "!"] : List Str).getD i "?"
noncomputable def vis_lays : Vis := ⟨[0, 1, 2, 3, 4], [], [0, 1, 2, 3, 4], [9, 21, 0, 11], []⟩
noncomputable def bd_names : MSs := (.cons (.ret (.call (.bi .len) 16 (.cons (.comp (.var 1 ⟨232, 16, 232, 20⟩) (.cons (.nm 1 ⟨232, 25, 232, 29⟩) (.str (Str.ofString "pqrs") 0 ⟨232, 33, 232, 39⟩) (.cons (.cmp .NotEq (.meth (.user 4) (.var 0 ⟨232, 43, 232, 48⟩) (.cons (.var 1 ⟨232, 57, 232, 61⟩) .nil) none ⟨232, 43, 232, 56⟩ ⟨232, 43, 232, 62⟩) (.lst false .nil ⟨232, 66, 232, 68⟩) ⟨232, 43, 232, 68⟩) .nil) .nil) [1] ⟨[1, 0], [0], [1], [], []⟩ { kind := .function, names := [((Str.ofString ".0"), .local), ((Str.ofString "name"), .local), ((Str.ofString "table"), .free)], isGenerator := false, isCoroutine := false, more := [] } ⟨232, 15, 232, 69⟩) .nil) ⟨232, 11, 232, 14⟩ ⟨232, 11, 232, 70⟩) ⟨232, 4, 232, 70⟩)
  .nil)
noncomputable def nm_names (i : Nat) : Str := ([Str.ofString "table", Str.ofString "name", Str.ofString "!"] : List Str).getD i "?"
noncomputable def vis_names : Vis := ⟨[0], [0], [0], [16], [1]⟩
noncomputable def bd_met : MSs := (.cons (.asg 2 ⟨234, 4, 234, 8⟩ (.call .new 0 (.cons (.bin .Add (.bin .Add (.bin .Mult (.str (Str.ofString " ") 0 ⟨234, 22, 234, 25⟩) (.var 1 ⟨234, 28, 234, 31⟩) ⟨234, 22, 234, 31⟩) (.str (Str.ofString "\t") 0 ⟨234, 34, 234, 38⟩) ⟨234, 22, 234, 38⟩) (.var 0 ⟨234, 41, 234, 44⟩) ⟨234, 22, 234, 44⟩) .nil) ⟨234, 11, 234, 21⟩ ⟨234, 11, 234, 45⟩) ⟨234, 4, 234, 45⟩)
  (.cons (.ret (.comp (.meth (.user 2) (.var 2 ⟨235, 12, 235, 16⟩) (.cons (.call .new 0 (.cons (.bin .Add (.bin .Add (.bin .Add (.bin .Mult (.str (Str.ofString " ") 0 ⟨235, 33, 235, 36⟩) (.bin .Sub (.var 1 ⟨235, 40, 235, 43⟩) (.int 1 0 ⟨235, 46, 235, 47⟩) ⟨235, 40, 235, 47⟩) ⟨235, 33, 235, 48⟩) (.str (Str.ofString "\t") 0 ⟨235, 51, 235, 55⟩) ⟨235, 33, 235, 55⟩) (.slc (.var 0 ⟨235, 58, 235, 61⟩) .none (.some (.un .USub (.int 2 0 ⟨235, 64, 235, 65⟩) ⟨235, 63, 235, 65⟩)) .none ⟨235, 58, 235, 66⟩ ⟨235, 62, 235, 65⟩) ⟨235, 33, 235, 66⟩) (.bin .Mult (.str (Str.ofString " ") 0 ⟨235, 69, 235, 72⟩) (.var 3 ⟨235, 75, 235, 79⟩) ⟨235, 69, 235, 79⟩) ⟨235, 33, 235, 79⟩) .nil) ⟨235, 22, 235, 32⟩ ⟨235, 22, 235, 80⟩) .nil) none ⟨235, 12, 235, 21⟩ ⟨235, 12, 235, 81⟩) (.cons (.nm 3 ⟨235, 86, 235, 90⟩) (.lst false (.cons (.var 1 ⟨235, 95, 235, 98⟩) (.cons (.bin .Add (.var 1 ⟨235, 100, 235, 103⟩) (.int 1 0 ⟨235, 106, 235, 107⟩) ⟨235, 100, 235, 107⟩) .nil)) ⟨235, 94, 235, 108⟩) .nil .nil) [3] ⟨[3, 2, 0, 1], [2, 0, 1], [3], [0], []⟩ { kind := .function, names := [((Str.ofString ".0"), .local), ((Str.ofString "more"), .local), ((Str.ofString "Whitespace"), .globalImplicit), ((Str.ofString "lead"), .free), ((Str.ofString "row"), .free), ((Str.ofString "run"), .free)], isGenerator := false, isCoroutine := false, more := [] } ⟨235, 11, 235, 109⟩) ⟨235, 4, 235, 109⟩)
  .nil))
noncomputable def nm_met (i : Nat) : Str := ([Str.ofString "row", Str.ofString "run", Str.ofString "lead", Str.ofString "more", Str.ofString "!"] : List Str).getD i "?"
noncomputable def vis_met : Vis := ⟨[0, 1, 2], [0, 1, 2], [0, 1, 2], [0], [3]⟩
noncomputable def tl_law_0 : MSs := (.cons (.ret (.cmp .Eq (.comp (.var 35 ⟨258, 12, 258, 16⟩) (.cons (.nm 34 ⟨258, 21, 258, 22⟩) (.call (.bi .range1) 21 (.cons (.int 4 0 ⟨258, 32, 258, 33⟩) .nil) ⟨258, 26, 258, 31⟩ ⟨258, 26, 258, 34⟩) .nil (.cons (.nm 35 ⟨258, 39, 258, 43⟩) (.call .fn 15 (.cons (.sub (.var 5 ⟨258, 56, 258, 60⟩) (.var 34 ⟨258, 61, 258, 62⟩) ⟨258, 56, 258, 63⟩) (.cons (.bin .Add (.var 34 ⟨258, 65, 258, 66⟩) (.int 2 0 ⟨258, 69, 258, 70⟩) ⟨258, 65, 258, 70⟩) .nil)) ⟨258, 47, 258, 55⟩ ⟨258, 47, 258, 71⟩) .nil .nil)) [34, 35] ⟨[34, 35, 5], [5], [34, 35], [15], []⟩ { kind := .function, names := [((Str.ofString ".0"), .local), ((Str.ofString "k"), .local), ((Str.ofString "told"), .local), ((Str.ofString "_law_met"), .globalImplicit), ((Str.ofString "rows"), .free)], isGenerator := false, isCoroutine := false, more := [] } ⟨258, 11, 258, 72⟩) (.bin .Mult (.lst false (.cons (.bool false 0 ⟨258, 77, 258, 82⟩) (.cons (.bool true 0 ⟨258, 84, 258, 88⟩) .nil)) ⟨258, 76, 258, 89⟩) (.int 4 0 ⟨258, 92, 258, 93⟩) ⟨258, 76, 258, 93⟩) ⟨258, 11, 258, 93⟩) ⟨258, 4, 258, 93⟩)
  .nil)
noncomputable def tl_law_1 : MSs := (.cons (.iff (.cmp .NotEq (.comp (.meth (.user 2) (.sub (.var 13 ⟨256, 8, 256, 13⟩) (.var 32 ⟨256, 14, 256, 15⟩) ⟨256, 8, 256, 16⟩) (.cons (.call .new 0 (.cons (.bin .Add (.str (Str.ofString " ") 0 ⟨256, 33, 256, 36⟩) (.sub (.var 5 ⟨256, 39, 256, 43⟩) (.var 32 ⟨256, 44, 256, 45⟩) ⟨256, 39, 256, 46⟩) ⟨256, 33, 256, 46⟩) .nil) ⟨256, 22, 256, 32⟩ ⟨256, 22, 256, 47⟩) .nil) none ⟨256, 8, 256, 21⟩ ⟨256, 8, 256, 48⟩) (.cons (.nm 32 ⟨256, 53, 256, 54⟩) (.call (.bi .range1) 21 (.cons (.int 4 0 ⟨256, 64, 256, 65⟩) .nil) ⟨256, 58, 256, 63⟩ ⟨256, 58, 256, 66⟩) .nil .nil) [32] ⟨[32, 13, 5], [13, 5], [32], [0], [33, 34, 35]⟩ { kind := .function, names := [((Str.ofString ".0"), .local), ((Str.ofString "k"), .local), ((Str.ofString "Whitespace"), .globalImplicit), ((Str.ofString "leads"), .free), ((Str.ofString "rows"), .free)], isGenerator := false, isCoroutine := false, more := [] } ⟨256, 7, 256, 67⟩) (.comp (.and2 (.cmp .Eq (.sub (.var 3 ⟨256, 72, 256, 76⟩) (.var 33 ⟨256, 77, 256, 78⟩) ⟨256, 72, 256, 79⟩) (.int 0 0 ⟨256, 83, 256, 84⟩) ⟨256, 72, 256, 84⟩) (.cmp .Eq (.var 2 ⟨256, 89, 256, 92⟩) (.lst false .nil ⟨256, 96, 256, 98⟩) ⟨256, 89, 256, 98⟩) ⟨256, 72, 256, 98⟩) (.cons (.nm 33 ⟨256, 103, 256, 104⟩) (.call (.bi .range1) 21 (.cons (.int 4 0 ⟨256, 114, 256, 115⟩) .nil) ⟨256, 108, 256, 113⟩ ⟨256, 108, 256, 116⟩) .nil .nil) [33] ⟨[33, 2, 3], [2, 3], [33], [], [34, 35]⟩ { kind := .function, names := [((Str.ofString ".0"), .local), ((Str.ofString "k"), .local), ((Str.ofString "bag"), .free), ((Str.ofString "tabs"), .free)], isGenerator := false, isCoroutine := false, more := [] } ⟨256, 71, 256, 117⟩) ⟨256, 7, 256, 117⟩) (.cons (.ret (.bool false 0 ⟨257, 15, 257, 20⟩) ⟨257, 8, 257, 20⟩)
  .nil) .nil ⟨256, 4, 257, 20⟩)
  tl_law_0)
noncomputable def tl_law_2 : MSs := (.cons (.asgC false 13 ⟨253, 4, 253, 9⟩ (.call .new 0 (.cons (.var 27 ⟨253, 24, 253, 27⟩) .nil) ⟨253, 13, 253, 23⟩ ⟨253, 13, 253, 28⟩) (.cons (.nm 27 ⟨253, 33, 253, 36⟩) (.var 5 ⟨253, 40, 253, 44⟩) .nil .nil) [27] ⟨[27], [], [27], [0], [28, 29, 30, 31, 32, 33, 34, 35]⟩ { kind := .function, names := [((Str.ofString ".0"), .local), ((Str.ofString "row"), .local), ((Str.ofString "Whitespace"), .globalImplicit)], isGenerator := false, isCoroutine := false, more := [] } ⟨253, 12, 253, 45⟩ ⟨253, 4, 253, 45⟩)
  (.cons (.iff (.cmp .NotEq (.comp (.meth (.user 2) (.var 28 ⟨254, 8, 254, 11⟩) (.cons (.var 29 ⟨254, 17, 254, 20⟩) .nil) none ⟨254, 8, 254, 16⟩ ⟨254, 8, 254, 21⟩) (.cons (.nm 28 ⟨254, 26, 254, 29⟩) (.var 13 ⟨254, 33, 254, 38⟩) .nil (.cons (.nm 29 ⟨254, 43, 254, 46⟩) (.var 13 ⟨254, 50, 254, 55⟩) .nil .nil)) [28, 29] ⟨[28, 29, 13], [13], [28, 29], [], [30, 31, 32, 33, 34, 35]⟩ { kind := .function, names := [((Str.ofString ".0"), .local), ((Str.ofString "one"), .local), ((Str.ofString "two"), .local), ((Str.ofString "leads"), .free)], isGenerator := false, isCoroutine := false, more := [] } ⟨254, 7, 254, 56⟩) (.comp (.and2 (.cmp .Lt (.sub (.var 4 ⟨254, 61, 254, 66⟩) (.var 30 ⟨254, 67, 254, 68⟩) ⟨254, 61, 254, 69⟩) (.sub (.var 4 ⟨254, 72, 254, 77⟩) (.var 31 ⟨254, 78, 254, 79⟩) ⟨254, 72, 254, 80⟩) ⟨254, 61, 254, 80⟩) (.cmp .LtE (.sub (.var 3 ⟨254, 85, 254, 89⟩) (.var 30 ⟨254, 90, 254, 91⟩) ⟨254, 85, 254, 92⟩) (.sub (.var 3 ⟨254, 96, 254, 100⟩) (.var 31 ⟨254, 101, 254, 102⟩) ⟨254, 96, 254, 103⟩) ⟨254, 85, 254, 103⟩) ⟨254, 61, 254, 103⟩) (.cons (.nm 30 ⟨254, 108, 254, 109⟩) (.call (.bi .range1) 21 (.cons (.int 4 0 ⟨254, 119, 254, 120⟩) .nil) ⟨254, 113, 254, 118⟩ ⟨254, 113, 254, 121⟩) .nil (.cons (.nm 31 ⟨254, 126, 254, 127⟩) (.call (.bi .range1) 21 (.cons (.int 4 0 ⟨254, 137, 254, 138⟩) .nil) ⟨254, 131, 254, 136⟩ ⟨254, 131, 254, 139⟩) .nil .nil)) [30, 31] ⟨[30, 31, 4, 3], [4, 3], [30, 31], [21], [32, 33, 34, 35]⟩ { kind := .function, names := [((Str.ofString ".0"), .local), ((Str.ofString "i"), .local), ((Str.ofString "j"), .local), ((Str.ofString "range"), .globalImplicit), ((Str.ofString "signs"), .free), ((Str.ofString "tabs"), .free)], isGenerator := false, isCoroutine := false, more := [] } ⟨254, 60, 254, 140⟩) ⟨254, 7, 254, 140⟩) (.cons (.ret (.bool false 0 ⟨255, 15, 255, 20⟩) ⟨255, 8, 255, 20⟩)
  .nil) .nil ⟨254, 4, 255, 20⟩)
  tl_law_1))
noncomputable def tl_law_3 : MSs := (.cons (.asg 12 ⟨250, 4, 250, 11⟩ (.call .fn 14 (.cons (.call .fn 12 (.cons (.comp (.sub (.var 5 ⟨250, 39, 250, 43⟩) (.var 26 ⟨250, 44, 250, 45⟩) ⟨250, 39, 250, 46⟩) (.cons (.nm 26 ⟨250, 51, 250, 52⟩) (.var 6 ⟨250, 56, 250, 61⟩) .nil .nil) [26] ⟨[26, 5], [5], [26], [], [27, 28, 29, 30, 31, 32, 33, 34, 35]⟩ { kind := .function, names := [((Str.ofString ".0"), .local), ((Str.ofString "k"), .local), ((Str.ofString "rows"), .free)], isGenerator := false, isCoroutine := false, more := [] } ⟨250, 38, 250, 62⟩) .nil) ⟨250, 25, 250, 37⟩ ⟨250, 25, 250, 63⟩) .nil) ⟨250, 14, 250, 24⟩ ⟨250, 14, 250, 64⟩) ⟨250, 4, 250, 64⟩)
  (.cons (.iff (.cmp .NotEq (.call .fn 5 (.cons (.var 10 ⟨251, 29, 251, 33⟩) (.cons (.var 8 ⟨251, 35, 251, 39⟩) (.cons (.int 28 0 ⟨251, 41, 251, 43⟩) .nil))) ⟨251, 7, 251, 28⟩ ⟨251, 7, 251, 44⟩) (.bin .Sub (.int 28 0 ⟨251, 48, 251, 50⟩) (.var 12 ⟨251, 53, 251, 60⟩) ⟨251, 48, 251, 60⟩) ⟨251, 7, 251, 60⟩) (.cons (.ret (.bool false 0 ⟨252, 15, 252, 20⟩) ⟨252, 8, 252, 20⟩)
  .nil) .nil ⟨251, 4, 252, 20⟩)
  tl_law_2))
noncomputable def bd_law : MSs := (.cons (.asgC true 1 ⟨237, 4, 237, 11⟩ (.bin .Add (.call (.bi .sum) 20 (.cons (.slc (.var 0 ⟨237, 19, 237, 25⟩) (.some (.var 14 ⟨237, 26, 237, 27⟩)) .none (.some (.int 4 0 ⟨237, 29, 237, 30⟩)) ⟨237, 19, 237, 31⟩ ⟨237, 26, 237, 30⟩) .nil) ⟨237, 15, 237, 18⟩ ⟨237, 15, 237, 32⟩) (.sub (.lst false (.cons (.int 2 0 ⟨237, 36, 237, 37⟩) (.cons (.int 9 0 ⟨237, 39, 237, 40⟩) (.cons (.int 28 0 ⟨237, 42, 237, 44⟩) (.cons (.int 39 0 ⟨237, 46, 237, 48⟩) .nil)))) ⟨237, 35, 237, 49⟩) (.var 14 ⟨237, 50, 237, 51⟩) ⟨237, 35, 237, 52⟩) ⟨237, 15, 237, 52⟩) (.cons (.nm 14 ⟨237, 57, 237, 58⟩) (.call (.bi .range1) 21 (.cons (.int 4 0 ⟨237, 68, 237, 69⟩) .nil) ⟨237, 62, 237, 67⟩ ⟨237, 62, 237, 70⟩) .nil .nil) [14] ⟨[14, 0], [0], [14], [20], [15, 16, 17, 18, 19, 20, 21, 22, 23, 24, 25, 26, 27, 28, 29, 30, 31, 32, 33, 34, 35]⟩ { kind := .function, names := [((Str.ofString ".0"), .local), ((Str.ofString "k"), .local), ((Str.ofString "sum"), .globalImplicit), ((Str.ofString "script"), .free)], isGenerator := false, isCoroutine := false, more := [] } ⟨237, 14, 237, 71⟩ ⟨237, 4, 237, 71⟩)
  (.cons (.asg 2 ⟨238, 4, 238, 7⟩ (.sub (.lst false (.cons (.lst false .nil ⟨238, 11, 238, 13⟩) (.cons (.lst false (.cons (.int 1 0 ⟨238, 16, 238, 17⟩) .nil) ⟨238, 15, 238, 18⟩) (.cons (.lst false (.cons (.int 2 0 ⟨238, 21, 238, 22⟩) .nil) ⟨238, 20, 238, 23⟩) (.cons (.lst false (.cons (.int 1 0 ⟨238, 26, 238, 27⟩) (.cons (.int 3 0 ⟨238, 29, 238, 30⟩) .nil)) ⟨238, 25, 238, 31⟩) .nil)))) ⟨238, 10, 238, 32⟩) (.bin .Mod (.call (.bi .sum) 20 (.cons (.var 0 ⟨238, 37, 238, 43⟩) .nil) ⟨238, 33, 238, 36⟩ ⟨238, 33, 238, 44⟩) (.int 4 0 ⟨238, 47, 238, 48⟩) ⟨238, 33, 238, 48⟩) ⟨238, 10, 238, 49⟩) ⟨238, 4, 238, 49⟩)
  (.cons (.asgC false 3 ⟨239, 4, 239, 8⟩ (.bin .Mod (.var 15 ⟨239, 12, 239, 18⟩) (.int 4 0 ⟨239, 21, 239, 22⟩) ⟨239, 12, 239, 22⟩) (.cons (.nm 15 ⟨239, 27, 239, 33⟩) (.var 1 ⟨239, 37, 239, 44⟩) .nil .nil) [15] ⟨[15], [], [15], [], [16, 17, 18, 19, 20, 21, 22, 23, 24, 25, 26, 27, 28, 29, 30, 31, 32, 33, 34, 35]⟩ { kind := .function, names := [((Str.ofString ".0"), .local), ((Str.ofString "number"), .local)], isGenerator := false, isCoroutine := false, more := [] } ⟨239, 11, 239, 45⟩ ⟨239, 4, 239, 45⟩)
  (.cons (.asgC false 4 ⟨240, 4, 240, 9⟩ (.bin .Add (.bin .Mod (.var 16 ⟨240, 13, 240, 19⟩) (.int 4 0 ⟨240, 22, 240, 23⟩) ⟨240, 13, 240, 23⟩) (.bin .Mod (.bin .FloorDiv (.var 16 ⟨240, 26, 240, 32⟩) (.int 4 0 ⟨240, 36, 240, 37⟩) ⟨240, 26, 240, 37⟩) (.int 4 0 ⟨240, 40, 240, 41⟩) ⟨240, 26, 240, 41⟩) ⟨240, 13, 240, 41⟩) (.cons (.nm 16 ⟨240, 46, 240, 52⟩) (.var 1 ⟨240, 56, 240, 63⟩) .nil .nil) [16] ⟨[16], [], [16], [], [17, 18, 19, 20, 21, 22, 23, 24, 25, 26, 27, 28, 29, 30, 31, 32, 33, 34, 35]⟩ { kind := .function, names := [((Str.ofString ".0"), .local), ((Str.ofString "number"), .local)], isGenerator := false, isCoroutine := false, more := [] } ⟨240, 12, 240, 64⟩ ⟨240, 4, 240, 64⟩)
  (.cons (.asgC false 5 ⟨241, 4, 241, 8⟩ (.call .fn 10 (.cons (.var 17 ⟨241, 22, 241, 28⟩) (.cons (.var 2 ⟨241, 30, 241, 33⟩) .nil)) ⟨241, 12, 241, 21⟩ ⟨241, 12, 241, 34⟩) (.cons (.nm 17 ⟨241, 39, 241, 45⟩) (.var 1 ⟨241, 49, 241, 56⟩) .nil .nil) [17] ⟨[17, 2], [2], [17], [10], [18, 19, 20, 21, 22, 23, 24, 25, 26, 27, 28, 29, 30, 31, 32, 33, 34, 35]⟩ { kind := .function, names := [((Str.ofString ".0"), .local), ((Str.ofString "number"), .local), ((Str.ofString "_law_lead"), .globalImplicit), ((Str.ofString "bag"), .free)], isGenerator := false, isCoroutine := false, more := [] } ⟨241, 11, 241, 57⟩ ⟨241, 4, 241, 57⟩)
  (.cons (.asgC true 6 ⟨242, 4, 242, 9⟩ (.sub (.var 18 ⟨242, 13, 242, 17⟩) (.int 2 0 ⟨242, 18, 242, 19⟩) ⟨242, 13, 242, 20⟩) (.cons (.nm 18 ⟨242, 25, 242, 29⟩) (.call (.bi .sortedT) 23 (.cons (.comp (.tup (.cons (.sub (.var 4 ⟨242, 42, 242, 47⟩) (.var 19 ⟨242, 48, 242, 49⟩) ⟨242, 42, 242, 50⟩) (.cons (.un .USub (.sub (.var 3 ⟨242, 53, 242, 57⟩) (.var 19 ⟨242, 58, 242, 59⟩) ⟨242, 53, 242, 60⟩) ⟨242, 52, 242, 60⟩) (.cons (.var 19 ⟨242, 62, 242, 63⟩) .nil))) 0 ⟨242, 41, 242, 64⟩) (.cons (.nm 19 ⟨242, 69, 242, 70⟩) (.call (.bi .range1) 21 (.cons (.int 4 0 ⟨242, 80, 242, 81⟩) .nil) ⟨242, 74, 242, 79⟩ ⟨242, 74, 242, 82⟩) .nil .nil) [19] ⟨[19, 4, 3], [4, 3], [19], [], [20, 21, 22, 23, 24, 25, 26, 27, 28, 29, 30, 31, 32, 33, 34, 35]⟩ { kind := .function, names := [((Str.ofString ".0"), .local), ((Str.ofString "k"), .local), ((Str.ofString "signs"), .free), ((Str.ofString "tabs"), .free)], isGenerator := false, isCoroutine := false, more := [] } ⟨242, 40, 242, 83⟩) .nil) ⟨242, 33, 242, 39⟩ ⟨242, 33, 242, 84⟩) .nil .nil) [18] ⟨[18], [], [18], [], [19, 20, 21, 22, 23, 24, 25, 26, 27, 28, 29, 30, 31, 32, 33, 34, 35]⟩ { kind := .function, names := [((Str.ofString ".0"), .local), ((Str.ofString "item"), .local)], isGenerator := false, isCoroutine := false, more := [] } ⟨242, 12, 242, 85⟩ ⟨242, 4, 242, 85⟩)
  (.cons (.asgC true 7 ⟨243, 4, 243, 10⟩ (.un .USub (.sub (.var 20 ⟨243, 15, 243, 19⟩) (.int 2 0 ⟨243, 20, 243, 21⟩) ⟨243, 15, 243, 22⟩) ⟨243, 14, 243, 22⟩) (.cons (.nm 20 ⟨243, 27, 243, 31⟩) (.call (.bi .sortedT) 23 (.cons (.comp (.tup (.cons (.sub (.var 3 ⟨243, 44, 243, 48⟩) (.var 21 ⟨243, 49, 243, 50⟩) ⟨243, 44, 243, 51⟩) (.cons (.sub (.var 4 ⟨243, 53, 243, 58⟩) (.var 21 ⟨243, 59, 243, 60⟩) ⟨243, 53, 243, 61⟩) (.cons (.un .USub (.var 21 ⟨243, 64, 243, 65⟩) ⟨243, 63, 243, 65⟩) .nil))) 0 ⟨243, 43, 243, 66⟩) (.cons (.nm 21 ⟨243, 71, 243, 72⟩) (.call (.bi .range1) 21 (.cons (.int 4 0 ⟨243, 82, 243, 83⟩) .nil) ⟨243, 76, 243, 81⟩ ⟨243, 76, 243, 84⟩) .nil .nil) [21] ⟨[21, 4, 3], [4, 3], [21], [], [22, 23, 24, 25, 26, 27, 28, 29, 30, 31, 32, 33, 34, 35]⟩ { kind := .function, names := [((Str.ofString ".0"), .local), ((Str.ofString "k"), .local), ((Str.ofString "signs"), .free), ((Str.ofString "tabs"), .free)], isGenerator := false, isCoroutine := false, more := [] } ⟨243, 42, 243, 85⟩) .nil) ⟨243, 35, 243, 41⟩ ⟨243, 35, 243, 86⟩) .nil .nil) [20] ⟨[20], [], [20], [], [21, 22, 23, 24, 25, 26, 27, 28, 29, 30, 31, 32, 33, 34, 35]⟩ { kind := .function, names := [((Str.ofString ".0"), .local), ((Str.ofString "item"), .local)], isGenerator := false, isCoroutine := false, more := [] } ⟨243, 13, 243, 87⟩ ⟨243, 4, 243, 87⟩)
  (.cons (.asg 8 ⟨244, 4, 244, 8⟩ (.meth (.bi .join) (.str (Str.ofString "") 0 ⟨244, 11, 244, 13⟩) (.cons (.comp (.sub (.str (Str.ofString "abcd") 0 ⟨244, 20, 244, 26⟩) (.var 22 ⟨244, 27, 244, 28⟩) ⟨244, 20, 244, 29⟩) (.cons (.nm 22 ⟨244, 34, 244, 35⟩) (.var 6 ⟨244, 39, 244, 44⟩) .nil .nil) [22] ⟨[22], [], [22], [], [23, 24, 25, 26, 27, 28, 29, 30, 31, 32, 33, 34, 35]⟩ { kind := .function, names := [((Str.ofString ".0"), .local), ((Str.ofString "k"), .local)], isGenerator := false, isCoroutine := false, more := [] } ⟨244, 19, 244, 45⟩) .nil) none ⟨244, 11, 244, 18⟩ ⟨244, 11, 244, 46⟩) ⟨244, 4, 244, 46⟩)
  (.cons (.asg 9 ⟨245, 4, 245, 9⟩ (.bin .Add (.bin .Add (.str (Str.ofString "..") 0 ⟨245, 12, 245, 16⟩) (.meth (.bi .join) (.str (Str.ofString "..") 0 ⟨245, 19, 245, 23⟩) (.cons (.comp (.sub (.str (Str.ofString "abcd") 0 ⟨245, 30, 245, 36⟩) (.var 23 ⟨245, 37, 245, 38⟩) ⟨245, 30, 245, 39⟩) (.cons (.nm 23 ⟨245, 44, 245, 45⟩) (.var 7 ⟨245, 49, 245, 55⟩) .nil .nil) [23] ⟨[23], [], [23], [], [24, 25, 26, 27, 28, 29, 30, 31, 32, 33, 34, 35]⟩ { kind := .function, names := [((Str.ofString ".0"), .local), ((Str.ofString "k"), .local)], isGenerator := false, isCoroutine := false, more := [] } ⟨245, 29, 245, 56⟩) .nil) none ⟨245, 19, 245, 28⟩ ⟨245, 19, 245, 57⟩) ⟨245, 12, 245, 57⟩) (.str (Str.ofString "..") 0 ⟨245, 60, 245, 64⟩) ⟨245, 12, 245, 64⟩) ⟨245, 4, 245, 64⟩)
  (.cons (.asg 10 ⟨246, 4, 246, 8⟩ (.bin .Add (.bin .Add (.str (Str.ofString "..") 0 ⟨246, 11, 246, 15⟩) (.meth (.bi .join) (.str (Str.ofString "..") 0 ⟨246, 18, 246, 22⟩) (.cons (.comp (.sub (.str (Str.ofString "ABCD") 0 ⟨246, 29, 246, 35⟩) (.var 24 ⟨246, 36, 246, 37⟩) ⟨246, 29, 246, 38⟩) (.cons (.nm 24 ⟨246, 43, 246, 44⟩) (.slc (.var 7 ⟨246, 48, 246, 54⟩) .none .none (.some (.un .USub (.int 1 0 ⟨246, 58, 246, 59⟩) ⟨246, 57, 246, 59⟩)) ⟨246, 48, 246, 60⟩ ⟨246, 55, 246, 59⟩) .nil .nil) [24] ⟨[24], [], [24], [], [25, 26, 27, 28, 29, 30, 31, 32, 33, 34, 35]⟩ { kind := .function, names := [((Str.ofString ".0"), .local), ((Str.ofString "k"), .local)], isGenerator := false, isCoroutine := false, more := [] } ⟨246, 28, 246, 61⟩) .nil) none ⟨246, 18, 246, 27⟩ ⟨246, 18, 246, 62⟩) ⟨246, 11, 246, 62⟩) (.str (Str.ofString "..") 0 ⟨246, 65, 246, 69⟩) ⟨246, 11, 246, 69⟩) ⟨246, 4, 246, 69⟩)
  (.cons (.asg 11 ⟨247, 4, 247, 10⟩ (.call .fn 14 (.cons (.call .fn 13 (.cons (.comp (.sub (.var 5 ⟨247, 37, 247, 41⟩) (.var 25 ⟨247, 42, 247, 43⟩) ⟨247, 37, 247, 44⟩) (.cons (.nm 25 ⟨247, 49, 247, 50⟩) (.var 6 ⟨247, 54, 247, 59⟩) .nil .nil) [25] ⟨[25, 5], [5], [25], [], [26, 27, 28, 29, 30, 31, 32, 33, 34, 35]⟩ { kind := .function, names := [((Str.ofString ".0"), .local), ((Str.ofString "k"), .local), ((Str.ofString "rows"), .free)], isGenerator := false, isCoroutine := false, more := [] } ⟨247, 36, 247, 60⟩) .nil) ⟨247, 24, 247, 35⟩ ⟨247, 24, 247, 61⟩) .nil) ⟨247, 13, 247, 23⟩ ⟨247, 13, 247, 62⟩) ⟨247, 4, 247, 62⟩)
  (.cons (.iff (.cmp .NotEq (.call .fn 5 (.cons (.var 8 ⟨248, 29, 248, 33⟩) (.cons (.var 9 ⟨248, 35, 248, 40⟩) (.cons (.int 28 0 ⟨248, 42, 248, 44⟩) .nil))) ⟨248, 7, 248, 28⟩ ⟨248, 7, 248, 45⟩) (.bin .Sub (.int 28 0 ⟨248, 49, 248, 51⟩) (.bin .Mult (.int 2 0 ⟨248, 54, 248, 55⟩) (.var 11 ⟨248, 58, 248, 64⟩) ⟨248, 54, 248, 64⟩) ⟨248, 49, 248, 64⟩) ⟨248, 7, 248, 64⟩) (.cons (.ret (.bool false 0 ⟨249, 15, 249, 20⟩) ⟨249, 8, 249, 20⟩)
  .nil) .nil ⟨248, 4, 249, 20⟩)
  tl_law_3))))))))))))
noncomputable def nm_law (i : Nat) : Str := ([Str.ofString "script", Str.ofString "numbers", Str.ofString "bag", Str.ofString "tabs", Str.ofString "signs", Str.ofString "rows", Str.ofString "first", Str.ofString "second", Str.ofString "word", Str.ofString "there", Str.ofString "back", Str.ofString "layers", Str.ofString "columns", Str.ofString "leads", Str.ofString "k", Str.ofString "number", Str.ofString "number", Str.ofString "number", Str.ofString "item", Str.ofString "k", Str.ofString "item", Str.ofString "k", Str.ofString "k", Str.ofString "k", Str.ofString "k", Str.ofString "k", Str.ofString "k", Str.ofString "row", Str.ofString "one", Str.ofString "two", Str.ofString "i", Str.ofString "j", Str.ofString "k", Str.ofString "k", Str.ofString "k", Str.ofString "told", Str.ofString "!"] : List Str).getD i "?"
noncomputable def vis_law : Vis := ⟨[0, 1, 2, 3, 4, 5, 6, 7, 8, 9, 10, 11, 12, 13], [0, 2, 3, 4, 5, 13], [0, 1, 2, 3, 4, 5, 6, 7, 8, 9, 10, 11, 12, 13], [21, 20, 23, 14, 13, 5, 12], [14, 15, 16, 17, 18, 19, 20, 21, 22, 23, 24, 25, 26, 27, 28, 29, 30, 31, 32, 33, 34, 35]⟩
noncomputable def ggl : List (Str × GV) := [(Str.ofString "Whitespace", .stat 100), (Str.ofString "_MAX_STRING_SIZE", .num 40), (Str.ofString "_MOVE_COST", .num 2), (Str.ofString "_CASE_COST", .num 1), (Str.ofString "_substitution_cost", .stat 111), (Str.ofString "_levenshtein_distance", .stat 118), (Str.ofString "_name_disallowed_re", .pat true 128), (Str.ofString "_value_disallowed_re", .pat false 133), (Str.ofString "_formatparam", .stat 141), (Str.ofString "Headers", .stat 262), (Str.ofString "_law_lead", .stat 271), (Str.ofString "_law_bars", .stat 276), (Str.ofString "_law_columns", .stat 283), (Str.ofString "_law_layers", .stat 290), (Str.ofString "_law_names", .stat 295), (Str.ofString "_law_met", .stat 300), (Str.ofString "len", .bi .len), (Str.ofString "max", .bi .max), (Str.ofString "min", .bi .min), (Str.ofString "abs", .bi .abs), (Str.ofString "sum", .bi .sum), (Str.ofString "range", .bi .range), (Str.ofString "list", .bi .list), (Str.ofString "sorted", .bi .sorted), (Str.ofString "tuple", .bi .tuple), (Str.ofString "type", .bi .type), (Str.ofString "str", .bi .str), (Str.ofString "zip", .bi .zip)]
noncomputable def gg (i : Nat) : Option (Str × GV) := ggl[i]?
noncomputable def mml : List (Addr × Str × Addr) := [(100, Str.ofString "longest_run_of_spaces", 62), (100, Str.ofString "indent_level", 69), (100, Str.ofString "less", 90), (262, Str.ofString "_convert_string_type", 163), (262, Str.ofString "get_all", 201), (262, Str.ofString "add_header", 259)]
noncomputable def mm (i : Nat) : Option (Addr × Str × Addr) := mml[i]?
noncomputable def cc (i : Nat) : Option (Nat × Str × Str) := ([(0, Str.ofString "S", Str.ofString " "), (0, Str.ofString "T", Str.ofString "\t")] : List (Nat × Str × Str))[i]?
noncomputable def aa (i : Nat) : Str := ([Str.ofString "raw", Str.ofString "n", Str.ofString "nt", Str.ofString "norm", Str.ofString "is_simple", Str.ofString "_headers"] : List Str).getD i "?"
-- sub addr 111 nl 2 dm 2 ps [0, 1] names [ch_a, ch_b, !]
-- lev addr 118 nl 14 dm 14 ps [0, 1, 2] names [a, b, max_cost, pre, post, row, result, bindex, bchar, distance, minimum, index, substitute, insert_delete, !]
-- wsi addr 55 nl 9 dm 9 ps [0, 1] names [self, ws, S, T, count, b, n, nt, ch, !]
-- run addr 62 nl 3 dm 3 ps [0] names [self, count, trailing, !]
-- ind addr 69 nl 6 dm 6 ps [0, 1] names [self, tabsize, count, trailing, il, i, !]
-- less addr 90 nl 4 dm 4 ps [0, 1] names [self, other, n, ts, !]
-- hdi addr 156 nl 4 dm 4 ps [0, 1] names [self, headers, k, v, !]
-- conv addr 163 nl 4 dm 4 ps [0, 1, 2] names [self, value, name, regex, !]
-- get addr 201 nl 2 dm 3 ps [0, 1] names [self, name, kv, !]
-- add addr 259 nl 7 dm 7 ps [0, 1, 2, 3] names [self, _name, _value, _params, parts, k, v, !]
-- lead addr 271 nl 5 dm 6 ps [0, 1] names [number, bag, tabs, runs, body, run, !]
-- bars addr 276 nl 3 dm 4 ps [0, 1, 2] names [rows, lead, told, row, !]
-- cols addr 283 nl 5 dm 5 ps [0] names [rows, table, k, lead, place, !]
-- lays addr 290 nl 5 dm 5 ps [0] names [rows, table, k, lead, place, !]
-- names addr 295 nl 1 dm 2 ps [0] names [table, name, !]
-- met addr 300 nl 3 dm 4 ps [0, 1] names [row, run, lead, more, !]
-- law addr 305 nl 14 dm 36 ps [0] names [script, numbers, bag, tabs, signs, rows, first, second, word, there, back, layers, columns, leads, k, number, number, number, item, k, item, k, k, k, k, k, k, row, one, two, i, j, k, k, k, told, !]

noncomputable def cx (w : World) (s0 : Shared) : Cx := { prog := pw, w := w, K := KK w.params, C := 100, cls := [100, 262], ms := mm, g := gg, an := aa, ca := cc, kwn := "name", pos := false, s0 := s0 }
noncomputable def nn (w : World) (s0 : Shared) (nm : Nat → Str) : Nm := ⟨nm, cx w s0⟩

set_option maxRecDepth 100000
section
variable {w : World} {s0 : Shared}
noncomputable def es3 (P : Params) : Array DictEntry := match (ob_3 P).data with | .dict es _ => es | _ => #[]
noncomputable def ep3 (P : Params) : Nat := match (ob_3 P).data with | .dict _ n => n | _ => 0
theorem ob3_es : (KK w.params).lookup mainGlobals = some ⟨.type "dict", none, .dict (es3 w.params) (ep3 w.params), #[]⟩ := by kernel_rfl
theorem ob3_main : kMain (es3 w.params) ggl = true := by kernel_rfl
theorem ca_ok : ∀ i g x v, cc i = some (g, x, v) → ∃ y a mc t, gg g = some (y, .stat a) ∧ typeIn (KK w.params) (.ref a) = some mc ∧ readsIn (KK w.params) a mc = true ∧ findCls (KK w.params) (.ref a) mc x = some (.val (.str v t)) ∧ handedIn (.str v t) = true := by
  intro i g x v e
  match i, e with
  | 0, e => cases e; exact ⟨_, 100, .type "type", 304, rfl, by kernel_rfl, by kernel_rfl, by kernel_rfl, by kernel_rfl⟩
  | 1, e => cases e; exact ⟨_, 100, .type "type", 305, rfl, by kernel_rfl, by kernel_rfl, by kernel_rfl, by kernel_rfl⟩
  | i + 2, e => cases e
theorem cls_100 : kCls (KK w.params) aa 100 = true := by kernel_rfl
theorem cls_262 : kCls (KK w.params) aa 262 = true := by kernel_rfl
theorem keeps_all : kKeeps (KK w.params) ggl = true := by kernel_rfl
theorem ms_all : kMs (KK w.params) [100, 262] aa mml = true := by kernel_rfl
theorem pat_ok (X : (KK w.params).In s0.heap) : ∀ p ∈ ggl, ∀ nm a, p.2 = .pat nm a → PatAt s0.heap nm a := by
  intro p hp nm a e
  have h : ggl.all (fun p => match p.2 with | .pat nm a => (nm && a == 128) || (!nm && a == 133) | _ => true) = true := by kernel_rfl
  have := List.all_eq_true.mp h p hp
  rw [e] at this
  cases nm with
  | true =>
    have ha : a = 128 := by simpa using this
    subst ha
    exact ⟨_, _, 127, 0, X 128 (ob_128 w.params) (by kernel_rfl), X 127 (ob_127 w.params) (by kernel_rfl)⟩
  | false =>
    have ha : a = 133 := by simpa using this
    subst ha
    exact ⟨_, _, 132, 0, X 133 (ob_133 w.params) (by kernel_rfl), X 132 (ob_132 w.params) (by kernel_rfl)⟩
theorem ok3 {mb : Str → Option Value} (X : (KK w.params).In s0.heap) (hb : s0.heap.Ns builtinsNs mb) (hbb : ∀ x : Str, x ≠ "__name__" → mb x = bootBuiltins x) (hn : s0.heap.NoLimit) : Ok (cx w s0) := by
  refine ok_of (gl := ggl) (ml := mml) rfl rfl X (by kernel_rfl) (by show (100 : Nat) ∈ [100, 262]; decide) ?_ (by kernel_rfl) keeps_all ms_all ca_ok ob3_es ob3_main hb hbb hn (pat_ok X)
  intro C hC
  have hC' : C = 100 ∨ C = 262 := by simpa [cx] using hC
  rcases hC' with rfl | rfl
  · exact cls_100
  · exact cls_262
theorem std3 (O : Ok (cx w s0)) (nm : Nat → Str) : Std (cx w s0) (nn w s0 nm) := ⟨O, rfl, fun i => by
  show ((nn w s0 nm).gl i == _) = false
  unfold Nm.gl
  split
  · rename_i x v e
    have h : ggl.all (fun p => !(p.1 == ("super" : Str))) = true := by kernel_rfl
    have := List.all_eq_true.mp h _ (List.mem_of_getElem? (show ggl[i]? = some (x, v) from e))
    simpa using this
  · decide +kernel⟩
theorem chk_sub : kDef (cx w s0) (nn w s0 nm_sub) fd_sub bd_sub vis_sub [0, 1] 2 2 = true := by kernel_rfl
theorem def_sub (X : (KK w.params).In s0.heap) : DefOk (cx w s0) (nn w s0 nm_sub) 111 fd_sub bd_sub vis_sub [0, 1] 2 2 := kDef_ok X (by kernel_rfl : (KK w.params).lookup 111 = some ⟨.type "function", none, .func fd_sub, #[]⟩) (by kernel_rfl) (by kernel_rfl) chk_sub
theorem chk_lev : kDef (cx w s0) (nn w s0 nm_lev) fd_lev bd_lev vis_lev [0, 1, 2] 14 14 = true := by kernel_rfl
theorem def_lev (X : (KK w.params).In s0.heap) : DefOk (cx w s0) (nn w s0 nm_lev) 118 fd_lev bd_lev vis_lev [0, 1, 2] 14 14 := kDef_ok X (by kernel_rfl : (KK w.params).lookup 118 = some ⟨.type "function", none, .func fd_lev, #[]⟩) (by kernel_rfl) (by kernel_rfl) chk_lev
theorem chk_wsi : kDef (cx w s0) (nn w s0 nm_wsi) fd_wsi bd_wsi vis_wsi [0, 1] 9 9 = true := by kernel_rfl
theorem def_wsi (X : (KK w.params).In s0.heap) : DefOk (cx w s0) (nn w s0 nm_wsi) 55 fd_wsi bd_wsi vis_wsi [0, 1] 9 9 := kDef_ok X (by kernel_rfl : (KK w.params).lookup 55 = some ⟨.type "function", none, .func fd_wsi, #[]⟩) (by kernel_rfl) (by kernel_rfl) chk_wsi
theorem chk_run : kDef (cx w s0) (nn w s0 nm_run) fd_run bd_run vis_run [0] 3 3 = true := by kernel_rfl
theorem def_run (X : (KK w.params).In s0.heap) : DefOk (cx w s0) (nn w s0 nm_run) 62 fd_run bd_run vis_run [0] 3 3 := kDef_ok X (by kernel_rfl : (KK w.params).lookup 62 = some ⟨.type "function", none, .func fd_run, #[]⟩) (by kernel_rfl) (by kernel_rfl) chk_run
theorem chk_ind : kDef (cx w s0) (nn w s0 nm_ind) fd_ind bd_ind vis_ind [0, 1] 6 6 = true := by kernel_rfl
theorem def_ind (X : (KK w.params).In s0.heap) : DefOk (cx w s0) (nn w s0 nm_ind) 69 fd_ind bd_ind vis_ind [0, 1] 6 6 := kDef_ok X (by kernel_rfl : (KK w.params).lookup 69 = some ⟨.type "function", none, .func fd_ind, #[]⟩) (by kernel_rfl) (by kernel_rfl) chk_ind
theorem chk_less : kDef (cx w s0) (nn w s0 nm_less) fd_less bd_less vis_less [0, 1] 4 4 = true := by kernel_rfl
theorem def_less (X : (KK w.params).In s0.heap) : DefOk (cx w s0) (nn w s0 nm_less) 90 fd_less bd_less vis_less [0, 1] 4 4 := kDef_ok X (by kernel_rfl : (KK w.params).lookup 90 = some ⟨.type "function", none, .func fd_less, #[]⟩) (by kernel_rfl) (by kernel_rfl) chk_less
theorem chk_hdi : kDef (cx w s0) (nn w s0 nm_hdi) fd_hdi bd_hdi vis_hdi [0, 1] 4 4 = true := by kernel_rfl
theorem def_hdi (X : (KK w.params).In s0.heap) : DefOk (cx w s0) (nn w s0 nm_hdi) 156 fd_hdi bd_hdi vis_hdi [0, 1] 4 4 := kDef_ok X (by kernel_rfl : (KK w.params).lookup 156 = some ⟨.type "function", none, .func fd_hdi, #[]⟩) (by kernel_rfl) (by kernel_rfl) chk_hdi
theorem chk_conv : kDef (cx w s0) (nn w s0 nm_conv) fd_conv bd_conv vis_conv [0, 1, 2] 4 4 = true := by kernel_rfl
theorem def_conv (X : (KK w.params).In s0.heap) : DefOk (cx w s0) (nn w s0 nm_conv) 163 fd_conv bd_conv vis_conv [0, 1, 2] 4 4 := kDef_ok X (by kernel_rfl : (KK w.params).lookup 163 = some ⟨.type "function", none, .func fd_conv, #[]⟩) (by kernel_rfl) (by kernel_rfl) chk_conv
theorem chk_get : kDef (cx w s0) (nn w s0 nm_get) fd_get bd_get vis_get [0, 1] 3 3 = true := by kernel_rfl
theorem def_get (X : (KK w.params).In s0.heap) : DefOk (cx w s0) (nn w s0 nm_get) 201 fd_get bd_get vis_get [0, 1] 3 3 := kDef_ok X (by kernel_rfl : (KK w.params).lookup 201 = some ⟨.type "function", none, .func fd_get, #[]⟩) (by kernel_rfl) (by kernel_rfl) chk_get
theorem chk_add : kDef (cx w s0) (nn w s0 nm_add) fd_add bd_add vis_add [0, 1, 2, 3] 7 7 = true := by kernel_rfl
theorem def_add (X : (KK w.params).In s0.heap) : DefOk (cx w s0) (nn w s0 nm_add) 259 fd_add bd_add vis_add [0, 1, 2, 3] 7 7 := kDef_ok X (by kernel_rfl : (KK w.params).lookup 259 = some ⟨.type "function", none, .func fd_add, #[]⟩) (by kernel_rfl) (by kernel_rfl) chk_add
theorem chk_lead : kDef (cx w s0) (nn w s0 nm_lead) fd_lead bd_lead vis_lead [0, 1] 6 6 = true := by kernel_rfl
theorem def_lead (X : (KK w.params).In s0.heap) : DefOk (cx w s0) (nn w s0 nm_lead) 271 fd_lead bd_lead vis_lead [0, 1] 6 6 := kDef_ok X (by kernel_rfl : (KK w.params).lookup 271 = some ⟨.type "function", none, .func fd_lead, #[]⟩) (by kernel_rfl) (by kernel_rfl) chk_lead
theorem chk_bars : kDef (cx w s0) (nn w s0 nm_bars) fd_bars bd_bars vis_bars [0, 1, 2] 4 4 = true := by kernel_rfl
theorem def_bars (X : (KK w.params).In s0.heap) : DefOk (cx w s0) (nn w s0 nm_bars) 276 fd_bars bd_bars vis_bars [0, 1, 2] 4 4 := kDef_ok X (by kernel_rfl : (KK w.params).lookup 276 = some ⟨.type "function", none, .func fd_bars, #[]⟩) (by kernel_rfl) (by kernel_rfl) chk_bars
theorem chk_cols : kDef (cx w s0) (nn w s0 nm_cols) fd_cols bd_cols vis_cols [0] 5 5 = true := by kernel_rfl
theorem def_cols (X : (KK w.params).In s0.heap) : DefOk (cx w s0) (nn w s0 nm_cols) 283 fd_cols bd_cols vis_cols [0] 5 5 := kDef_ok X (by kernel_rfl : (KK w.params).lookup 283 = some ⟨.type "function", none, .func fd_cols, #[]⟩) (by kernel_rfl) (by kernel_rfl) chk_cols
theorem chk_lays : kDef (cx w s0) (nn w s0 nm_lays) fd_lays bd_lays vis_lays [0] 5 5 = true := by kernel_rfl
theorem def_lays (X : (KK w.params).In s0.heap) : DefOk (cx w s0) (nn w s0 nm_lays) 290 fd_lays bd_lays vis_lays [0] 5 5 := kDef_ok X (by kernel_rfl : (KK w.params).lookup 290 = some ⟨.type "function", none, .func fd_lays, #[]⟩) (by kernel_rfl) (by kernel_rfl) chk_lays
theorem chk_names : kDef (cx w s0) (nn w s0 nm_names) fd_names bd_names vis_names [0] 2 2 = true := by kernel_rfl
theorem def_names (X : (KK w.params).In s0.heap) : DefOk (cx w s0) (nn w s0 nm_names) 295 fd_names bd_names vis_names [0] 2 2 := kDef_ok X (by kernel_rfl : (KK w.params).lookup 295 = some ⟨.type "function", none, .func fd_names, #[]⟩) (by kernel_rfl) (by kernel_rfl) chk_names
theorem chk_met : kDef (cx w s0) (nn w s0 nm_met) fd_met bd_met vis_met [0, 1] 4 4 = true := by kernel_rfl
theorem def_met (X : (KK w.params).In s0.heap) : DefOk (cx w s0) (nn w s0 nm_met) 300 fd_met bd_met vis_met [0, 1] 4 4 := kDef_ok X (by kernel_rfl : (KK w.params).lookup 300 = some ⟨.type "function", none, .func fd_met, #[]⟩) (by kernel_rfl) (by kernel_rfl) chk_met
theorem chk_law : kDef (cx w s0) (nn w s0 nm_law) fd_law bd_law vis_law [0] 36 36 = true := by kernel_rfl
theorem def_law (X : (KK w.params).In s0.heap) : DefOk (cx w s0) (nn w s0 nm_law) 305 fd_law bd_law vis_law [0] 36 36 := kDef_ok X (by kernel_rfl : (KK w.params).lookup 305 = some ⟨.type "function", none, .func fd_law, #[]⟩) (by kernel_rfl) (by kernel_rfl) chk_law
end

set_option maxRecDepth 100000
section
variable {w : World} {s0 : Shared}
theorem g_0 : (cx w s0).g 0 = some (Str.ofString "Whitespace", .stat 100) := rfl
theorem g_1 : (cx w s0).g 1 = some (Str.ofString "_MAX_STRING_SIZE", .num 40) := rfl
theorem g_2 : (cx w s0).g 2 = some (Str.ofString "_MOVE_COST", .num 2) := rfl
theorem g_3 : (cx w s0).g 3 = some (Str.ofString "_CASE_COST", .num 1) := rfl
theorem g_4 : (cx w s0).g 4 = some (Str.ofString "_substitution_cost", .stat 111) := rfl
theorem g_5 : (cx w s0).g 5 = some (Str.ofString "_levenshtein_distance", .stat 118) := rfl
theorem g_6 : (cx w s0).g 6 = some (Str.ofString "_name_disallowed_re", .pat true 128) := rfl
theorem g_7 : (cx w s0).g 7 = some (Str.ofString "_value_disallowed_re", .pat false 133) := rfl
theorem g_8 : (cx w s0).g 8 = some (Str.ofString "_formatparam", .stat 141) := rfl
theorem g_9 : (cx w s0).g 9 = some (Str.ofString "Headers", .stat 262) := rfl
theorem g_10 : (cx w s0).g 10 = some (Str.ofString "_law_lead", .stat 271) := rfl
theorem g_11 : (cx w s0).g 11 = some (Str.ofString "_law_bars", .stat 276) := rfl
theorem g_12 : (cx w s0).g 12 = some (Str.ofString "_law_columns", .stat 283) := rfl
theorem g_13 : (cx w s0).g 13 = some (Str.ofString "_law_layers", .stat 290) := rfl
theorem g_14 : (cx w s0).g 14 = some (Str.ofString "_law_names", .stat 295) := rfl
theorem g_15 : (cx w s0).g 15 = some (Str.ofString "_law_met", .stat 300) := rfl
theorem g_16 : (cx w s0).g 16 = some (Str.ofString "len", .bi .len) := rfl
theorem g_17 : (cx w s0).g 17 = some (Str.ofString "max", .bi .max) := rfl
theorem g_18 : (cx w s0).g 18 = some (Str.ofString "min", .bi .min) := rfl
theorem g_19 : (cx w s0).g 19 = some (Str.ofString "abs", .bi .abs) := rfl
theorem g_20 : (cx w s0).g 20 = some (Str.ofString "sum", .bi .sum) := rfl
theorem g_21 : (cx w s0).g 21 = some (Str.ofString "range", .bi .range) := rfl
theorem g_22 : (cx w s0).g 22 = some (Str.ofString "list", .bi .list) := rfl
theorem g_23 : (cx w s0).g 23 = some (Str.ofString "sorted", .bi .sorted) := rfl
theorem g_24 : (cx w s0).g 24 = some (Str.ofString "tuple", .bi .tuple) := rfl
theorem g_25 : (cx w s0).g 25 = some (Str.ofString "type", .bi .type) := rfl
theorem g_26 : (cx w s0).g 26 = some (Str.ofString "str", .bi .str) := rfl
theorem g_27 : (cx w s0).g 27 = some (Str.ofString "zip", .bi .zip) := rfl
theorem m_0 : (cx w s0).ms 0 = some (100, Str.ofString "longest_run_of_spaces", 62) := rfl
theorem m_1 : (cx w s0).ms 1 = some (100, Str.ofString "indent_level", 69) := rfl
theorem m_2 : (cx w s0).ms 2 = some (100, Str.ofString "less", 90) := rfl
theorem m_3 : (cx w s0).ms 3 = some (262, Str.ofString "_convert_string_type", 163) := rfl
theorem m_4 : (cx w s0).ms 4 = some (262, Str.ofString "get_all", 201) := rfl
theorem m_5 : (cx w s0).ms 5 = some (262, Str.ofString "add_header", 259) := rfl
theorem c_0 : (cx w s0).ca 0 = some (0, Str.ofString "S", Str.ofString " ") := rfl
theorem c_1 : (cx w s0).ca 1 = some (0, Str.ofString "T", Str.ofString "\t") := rfl
end
section
variable {w : World} {s0 : Shared} {r : Nat} {σ : List MObj}

noncomputable def chS (a : Nat) : V := .d (.str ⟨#[a]⟩)

theorem two_of {α : Type} {l : List α} (h : l.length = 2) : ∃ a b, l = [a, b] := by
  match l, h with
  | [a, b], _ => exact ⟨a, b, rfl⟩
theorem one_of {α : Type} {l : List α} (h : l.length = 1) : ∃ a, l = [a] := by
  match l, h with
  | [a], _ => exact ⟨a, rfl⟩
theorem three_of {α : Type} {l : List α} (h : l.length = 3) : ∃ a b c, l = [a, b, c] := by
  match l, h with
  | [a, b, c], _ => exact ⟨a, b, c, rfl⟩

theorem bind_sub {xs : List V} (h : xs.length = 2) : Binds (cx w s0) (nn w s0 nm_sub) fd_sub [0, 1] xs none xs := .plain h fun vals hv => by obtain ⟨a, b, rfl⟩ := two_of hv; kernel_rfl
theorem bind_lev {xs : List V} (h : xs.length = 3) : Binds (cx w s0) (nn w s0 nm_lev) fd_lev [0, 1, 2] xs none xs := .plain h fun vals hv => by obtain ⟨a, b, c, rfl⟩ := three_of hv; kernel_rfl
theorem bind_wsi {xs : List V} (h : xs.length = 2) : Binds (cx w s0) (nn w s0 nm_wsi) fd_wsi [0, 1] xs none xs := .plain h fun vals hv => by obtain ⟨a, b, rfl⟩ := two_of hv; kernel_rfl
theorem bind_run {xs : List V} (h : xs.length = 1) : Binds (cx w s0) (nn w s0 nm_run) fd_run [0] xs none xs := .plain h fun vals hv => by obtain ⟨a, rfl⟩ := one_of hv; kernel_rfl
theorem bind_ind {xs : List V} (h : xs.length = 2) : Binds (cx w s0) (nn w s0 nm_ind) fd_ind [0, 1] xs none xs := .plain h fun vals hv => by obtain ⟨a, b, rfl⟩ := two_of hv; kernel_rfl
theorem bind_less {xs : List V} (h : xs.length = 2) : Binds (cx w s0) (nn w s0 nm_less) fd_less [0, 1] xs none xs := .plain h fun vals hv => by obtain ⟨a, b, rfl⟩ := two_of hv; kernel_rfl
theorem bind_get {xs : List V} (h : xs.length = 2) : Binds (cx w s0) (nn w s0 nm_get) fd_get [0, 1] xs none xs := .plain h fun vals hv => by obtain ⟨a, b, rfl⟩ := two_of hv; kernel_rfl
theorem bind_lead {xs : List V} (h : xs.length = 2) : Binds (cx w s0) (nn w s0 nm_lead) fd_lead [0, 1] xs none xs := .plain h fun vals hv => by obtain ⟨a, b, rfl⟩ := two_of hv; kernel_rfl
theorem bind_bars {xs : List V} (h : xs.length = 3) : Binds (cx w s0) (nn w s0 nm_bars) fd_bars [0, 1, 2] xs none xs := .plain h fun vals hv => by obtain ⟨a, b, c, rfl⟩ := three_of hv; kernel_rfl
theorem bind_cols {xs : List V} (h : xs.length = 1) : Binds (cx w s0) (nn w s0 nm_cols) fd_cols [0] xs none xs := .plain h fun vals hv => by obtain ⟨a, rfl⟩ := one_of hv; kernel_rfl
theorem bind_lays {xs : List V} (h : xs.length = 1) : Binds (cx w s0) (nn w s0 nm_lays) fd_lays [0] xs none xs := .plain h fun vals hv => by obtain ⟨a, rfl⟩ := one_of hv; kernel_rfl
theorem bind_names {xs : List V} (h : xs.length = 1) : Binds (cx w s0) (nn w s0 nm_names) fd_names [0] xs none xs := .plain h fun vals hv => by obtain ⟨a, rfl⟩ := one_of hv; kernel_rfl
theorem bind_met {xs : List V} (h : xs.length = 2) : Binds (cx w s0) (nn w s0 nm_met) fd_met [0, 1] xs none xs := .plain h fun vals hv => by obtain ⟨a, b, rfl⟩ := two_of hv; kernel_rfl
theorem bind_conv {xs : List V} {b : Bool} (h : xs.length = 2) : Binds (cx w s0) (nn w s0 nm_conv) fd_conv [0, 1, 2] xs (some b) (xs ++ [.d (.bool b)]) := .kwo (by simp [h]) fun vals hv => by obtain ⟨a, b, rfl⟩ := two_of (by simpa using hv : vals.length = 2); kernel_rfl
theorem bind_add {xs : List V} (O : Ok (cx w s0)) (h : xs.length = 3) : Binds (cx w s0) (nn w s0 nm_add) fd_add [0, 1, 2, 3] xs none (xs ++ [.d .emp]) := .kws O (by simp [h]) fun vals hv => by obtain ⟨a, b, c, rfl⟩ := three_of (by simpa using hv : vals.length = 3); kernel_rfl
theorem bind_hdi {xs : List V} (O : Ok (cx w s0)) (h : xs.length = 1) : Binds (cx w s0) (nn w s0 nm_hdi) fd_hdi [0, 1] xs none (xs ++ [.d .none]) :=
  .dflt (T := 149) (o := ob_149 w.params) (n := 0) (k := fun _ => pure []) O (by simp [h]) (by kernel_rfl) (O.In 149 _ (by kernel_rfl)) (by kernel_rfl) fun vals hv => by obtain ⟨a, rfl⟩ := one_of (by simpa using hv : vals.length = 1); exact ⟨_, rfl, by kernel_rfl⟩

theorem tc_sub (O : Ok (cx w s0)) {a b : Nat} (ha : tameC a = true) (hb : tameC b = true) {k : V → List MObj → Prop} (hk : k (.d (.int (subC a b))) σ) : TCc (cx w s0) (r + 1) 111 [chS a, chS b] none σ k := by
  refine TC_def (std3 O nm_sub) (def_sub O.In) (bind_sub rfl) rfl (fun i hi => hi) ?_
  unfold bd_sub tl_sub_1 tl_sub_0 chS
  (try dsimp only [loc0, List.replicate, List.set, wpSs, wpS, wpB, wpE, List.getElem?_cons_zero, Option.map, g_2, retK, g_3, R.cm5, R.tr1, wpEs, List.getElem?_cons_succ, R.eq3, R.ba4, R.bm1])
  rw [strq]
  have ht : ∀ c : Nat, tameC c = true → tame ⟨#[c]⟩ = true := fun c hc => tame_of (l := [c]) (by simpa using hc)
  have hm : ∀ c : Nat, (⟨Array.map (fun ch => if 65 ≤ ch ∧ ch ≤ 90 then ch + 32 else ch) #[c]⟩ : Str) = ⟨#[low c]⟩ := fun c => by simp [low]
  rw [hm, hm, strq]
  unfold subC at hk
  refine ⟨fun h => ?_, fun h => ⟨(by trivial), (by trivial), ht a ha, by show (1 : Nat) ≤ 1000; omega, (by trivial), (by trivial), ht b hb, by show (1 : Nat) ≤ 1000; omega, fun h' => ?_, fun h' => ?_⟩⟩
  · rw [if_pos (of_decide_eq_true h)] at hk; exact hk
  · rw [if_neg (of_decide_eq_false h), if_pos (of_decide_eq_true h')] at hk; exact hk
  · rw [if_neg (of_decide_eq_false h), if_neg (of_decide_eq_false h')] at hk; exact hk
end

set_option maxRecDepth 100000
set_option maxHeartbeats 4000000

section
variable {w : World} {s0 : Shared} {r : Nat} {σ : List MObj}

noncomputable def iv (i : Int) : V := .d (.int i)
/-- the slots of the first part -/
noncomputable def L1 (a b : List Nat) (mc pre : Int) (post : Option V) : List (Option V) := [some (sv a), some (sv b), some (.d (.int mc)), some (.d (.int pre)), post, none, none, none, none, none, none, none, none, none]

theorem drop_some {l : List Nat} {i : Nat} (h : (!(l.drop i).toArray.isEmpty) = true) : i < l.length := by
  rcases Nat.lt_or_ge i l.length with h' | h'
  · exact h'
  · rw [List.drop_eq_nil_of_le h'] at h; simp at h
theorem lev_pre {a b : List Nat} (la : a.length ≤ 40) (lb : b.length ≤ 40) {mc : Int} {p : Pos} {k : KF} (hk : ∀ i : Nat, i ≤ a.length → i ≤ b.length → a.take i = b.take i → k .next ⟨σ, L1 a b mc i none⟩) :
    wpS (cx w s0) r (.whl tb_lev_0 lb_lev_1 p) ⟨σ, L1 a b mc 0 none⟩ k := by
  dsimp only [wpS]
  refine ⟨a.length + 1, whK_inv (fun i st => st = ⟨σ, L1 a b mc i none⟩ ∧ i ≤ a.length ∧ i ≤ b.length ∧ a.take i = b.take i) (fun st => ∃ i : Nat, st = ⟨σ, L1 a b mc i none⟩ ∧ i ≤ a.length ∧ i ≤ b.length ∧ a.take i = b.take i) (fun _ _ => False) (fun _ => False) a.length (fun i st h => h.2.1) ?_ _ 0 ⟨rfl, by omega, by omega, by simp⟩ (by omega) ?_ (fun _ _ h => h.elim) (fun _ h => h.elim)⟩
  · rintro i st K ⟨rfl, h1, h2, h3⟩ hF hT
    unfold tb_lev_0 L1 sv
    (try dsimp only [wpB, wpBs, wpE, List.getElem?_cons_zero, R.cm5, R.tr1, wpO, List.getElem?_cons_succ, R.sl3in, R.tr3, R.sb3, R.eq3])
    rw [cut_from h1, cut_from h2, at_nat, at_nat]
    refine ⟨by show a.length < _; omega, by show (a.drop i).length < _; rw [List.length_drop]; omega, fun e1 => ⟨by show b.length < _; omega, by show (b.drop i).length < _; rw [List.length_drop]; omega, fun e2 => ?_, fun _ => hF _ ⟨i, rfl, h1, h2, h3⟩⟩, fun _ => hF _ ⟨i, rfl, h1, h2, h3⟩⟩
    have i1 := drop_some e1
    have i2 := drop_some e2
    refine ⟨a[i], List.getElem?_eq_getElem i1, by show a.length < _; omega, b[i], List.getElem?_eq_getElem i2, by show b.length < _; omega, fun e => ?_, fun _ => hF _ ⟨i, rfl, h1, h2, h3⟩⟩
    rw [strq] at e
    have e := of_decide_eq_true e
    refine hT _ fun K' hN' _ _ => ?_
    unfold lb_lev_1
    refine stp fun K2 hN hR hB => ?_
    (try dsimp only [wpS, List.getElem?_cons_succ, List.getElem?_cons_zero, wpE, R.ag1, List.length_cons, List.length_nil, List.set])
    refine ⟨by (first | decide | (simp; done) | rfl), hN _ (stn (hN' _ ⟨rfl, i1, i2, ?_⟩))⟩
    rw [take_snoc (List.getElem?_eq_getElem i1), take_snoc (List.getElem?_eq_getElem i2), h3, e]
  · rintro st' ⟨i, rfl, h1, h2, h3⟩
    exact hk i h1 h2 h3

noncomputable def bk (i : Nat) : Int := -(i : Int)
theorem post_cut {α : Type} {l : List α} {i : Nat} (h : i ≤ l.length) (hi : 0 < i) : cutOf l none (some (bk i)) = l.take (l.length - i) := cut_back hi h

theorem len_some {l : List Nat} (h : (!l.toArray.isEmpty) = true) : 0 < l.length := by
  cases l with
  | nil => simp at h
  | cons => simp
theorem drop_back {l : List Nat} {i : Nat} (h : i < l.length) : l.drop (l.length - (i + 1)) = l[l.length - (i + 1)] :: l.drop (l.length - i) := by
  rw [List.drop_eq_getElem_cons (by omega), show l.length - (i + 1) + 1 = l.length - i by omega]
theorem lev_post_tail {a b : List Nat} {mc pre : Int} {i : Nat} {K : KB} (i1 : i < a.length) (i2 : i < b.length) (h1 : i ≤ a.length) (h2 : i ≤ b.length) (la : a.length ≤ 40) (lb : b.length ≤ 40) (h3 : a.drop (a.length - i) = b.drop (b.length - i))
    (hF : ∀ st', (∃ i : Nat, st' = ⟨σ, L1 a b mc pre (some (.d (.int (bk i))))⟩ ∧ i ≤ a.length ∧ i ≤ b.length ∧ a.drop (a.length - i) = b.drop (b.length - i)) → K false st')
    (hT : ∀ st', (∀ K : KF, (∀ st'', (st'' = ⟨σ, L1 a b mc pre (some (.d (.int (bk (i + 1)))))⟩ ∧ i + 1 ≤ a.length ∧ i + 1 ≤ b.length ∧ a.drop (a.length - (i + 1)) = b.drop (b.length - (i + 1))) → K .next st'') → (∀ (v : V) (st'' : St), False → K (.ret v) st'') → (∀ st'' : St, False → K .brk st'') → wpSs (cx w s0) r lb_lev_3 st' K) → K true st') :
    ∃ ch, atIdx a (bk (i + 1)) = some ch ∧ (⟨a.toArray⟩ : Str).length < 2 ^ 62 ∧ ∃ ch_1, atIdx b (bk (i + 1)) = some ch_1 ∧ (⟨b.toArray⟩ : Str).length < 2 ^ 62 ∧
      (((⟨#[ch]⟩ : Str) == ⟨#[ch_1]⟩) = true → K true ⟨σ, L1 a b mc pre (some (.d (.int (bk i))))⟩) ∧ (((⟨#[ch]⟩ : Str) == ⟨#[ch_1]⟩) = false → K false ⟨σ, L1 a b mc pre (some (.d (.int (bk i))))⟩) := by
  have A : atIdx a (bk (i + 1)) = some (a[a.length - (i + 1)]'(by omega)) := by unfold bk; rw [at_neg (by omega) (by omega)]; exact List.getElem?_eq_getElem (by omega)
  have B : atIdx b (bk (i + 1)) = some (b[b.length - (i + 1)]'(by omega)) := by unfold bk; rw [at_neg (by omega) (by omega)]; exact List.getElem?_eq_getElem (by omega)
  refine ⟨_, A, by show a.length < _; omega, _, B, by show b.length < _; omega, fun e => ?_, fun _ => hF _ ⟨i, rfl, h1, h2, h3⟩⟩
  rw [strq] at e
  have e := of_decide_eq_true e
  refine hT _ fun K' hN' _ _ => ?_
  unfold lb_lev_3 L1
  refine stp fun K2 hN hR hB => ?_
  (try dsimp only [wpS, List.getElem?_cons_succ, List.getElem?_cons_zero, wpE, R.ag2, List.length_cons, List.length_nil, List.set])
  refine ⟨by (first | decide | (simp; done) | rfl), hN _ (stn (hN' _ ⟨?_, i1, i2, ?_⟩))⟩
  · rw [show bk (i + 1) = bk i - 1 by unfold bk; omega]; rfl
  · rw [drop_back i1, drop_back i2, h3, e]

theorem lev_post {a b : List Nat} (la : a.length ≤ 40) (lb : b.length ≤ 40) {mc pre : Int} {p : Pos} {k : KF} (hk : ∀ i : Nat, i ≤ a.length → i ≤ b.length → a.drop (a.length - i) = b.drop (b.length - i) → k .next ⟨σ, L1 a b mc pre (some (.d (.int (bk i))))⟩) :
    wpS (cx w s0) r (.whl tb_lev_2 lb_lev_3 p) ⟨σ, L1 a b mc pre (some (.d (.int 0)))⟩ k := by
  dsimp only [wpS]
  refine ⟨a.length + 1, whK_inv (fun i st => st = ⟨σ, L1 a b mc pre (some (.d (.int (bk i))))⟩ ∧ i ≤ a.length ∧ i ≤ b.length ∧ a.drop (a.length - i) = b.drop (b.length - i)) (fun st => ∃ i : Nat, st = ⟨σ, L1 a b mc pre (some (.d (.int (bk i))))⟩ ∧ i ≤ a.length ∧ i ≤ b.length ∧ a.drop (a.length - i) = b.drop (b.length - i)) (fun _ _ => False) (fun _ => False) a.length (fun i st h => h.2.1) ?_ _ 0 ⟨rfl, by omega, by omega, by simp⟩ (by omega) ?_ (fun _ _ h => h.elim) (fun _ h => h.elim)⟩
  · rintro i st K ⟨rfl, h1, h2, h3⟩ hF hT
    unfold tb_lev_2 L1 sv
    (try dsimp only [wpB, wpBs, wpE, List.getElem?_cons_zero, R.cm5, R.tr1, wpO, List.getElem?_cons_succ, R.tr2, R.sl3ni, R.tr3, R.b2, R.sb3, R.eq3, R.sl3nn])
    have hbk : bk i - 1 = bk (i + 1) := by unfold bk; omega
    rw [hbk]
    rcases Nat.eq_zero_or_pos i with h0 | h0
    · have hb : (bk i != 0) = false := by subst h0; rfl
      simp only [hb, Bool.false_eq_true, false_implies, true_and, true_implies, cut_all]
      refine ⟨by show a.length < _; omega, by show a.length < _; omega, fun e1 => ⟨by show b.length < _; omega, by show b.length < _; omega, fun e2 => ?_, fun _ => hF _ ⟨i, rfl, h1, h2, h3⟩⟩, fun _ => hF _ ⟨i, rfl, h1, h2, h3⟩⟩
      have i1 : i < a.length := by have := len_some e1; omega
      have i2 : i < b.length := by have := len_some e2; omega
      exact lev_post_tail i1 i2 h1 h2 la lb h3 hF hT
    · have hb : (bk i != 0) = true := by unfold bk; simp; omega
      simp only [hb, Bool.true_eq_false, false_implies, and_true, true_implies, post_cut h1 h0, post_cut h2 h0]
      refine ⟨by show a.length < _; omega, by show (a.take _).length < _; rw [List.length_take]; omega, fun e1 => ⟨by show b.length < _; omega, by show (b.take _).length < _; rw [List.length_take]; omega, fun e2 => ?_, fun _ => hF _ ⟨i, rfl, h1, h2, h3⟩⟩, fun _ => hF _ ⟨i, rfl, h1, h2, h3⟩⟩
      have i1 : i < a.length := by have := len_some e1; rw [List.length_take] at this; omega
      have i2 : i < b.length := by have := len_some e2; rw [List.length_take] at this; omega
      exact lev_post_tail i1 i2 h1 h2 la lb h3 hF hT
  · rintro st' ⟨i, rfl, h1, h2, h3⟩
    exact hk i h1 h2 h3
end

set_option maxRecDepth 100000
set_option maxHeartbeats 4000000

section
variable {w : World} {s0 : Shared} {r : Nat} {σ : List MObj}

noncomputable def L3 (a b : List Nat) (mc : Int) (pre post : Option V) (top : Nat) (res : Int) (l7 l8 l9 l10 l11 l12 l13 : Option V) : List (Option V) := [some (sv a), some (sv b), some (.d (.int mc)), pre, post, some (.lst top), some (.d (.int res)), l7, l8, l9, l10, l11, l12, l13]
noncomputable def rowV (a b : List Nat) (i j : Nat) : List D := (List.range a.length).map fun j' => .int (if j' < j then tbl a b (i + 1) (j' + 1) else tbl a b i (j' + 1) : Nat)
theorem rowV_len {a b : List Nat} {i j : Nat} : (rowV a b i j).length = a.length := by simp [rowV]
theorem rowV_get {a b : List Nat} {i j : Nat} (h : j < a.length) : atIdx (rowV a b i j) (j : Int) = some (.int (tbl a b i (j + 1) : Nat)) := by
  rw [at_nat]; unfold rowV
  rw [List.getElem?_map, List.getElem?_range h]
  simp
theorem rowV_set {a b : List Nat} {i j : Nat} (h : j < a.length) : (rowV a b i j).set j (.int (tbl a b (i + 1) (j + 1) : Nat)) = rowV a b i (j + 1) := by
  refine List.ext_getElem? fun n => ?_
  rw [List.getElem?_set]
  unfold rowV
  by_cases e : j = n
  · subst e
    rw [if_pos rfl, List.length_map, List.length_range, if_pos h, List.getElem?_map, List.getElem?_range h]
    simp
  · rw [if_neg e, List.getElem?_map, List.getElem?_map]
    by_cases hn : n < a.length
    · rw [List.getElem?_range hn]
      simp only [Option.map_some, Option.some.injEq, D.int.injEq]
      by_cases h1 : n < j
      · rw [if_pos h1, if_pos (by omega)]
      · rw [if_neg h1, if_neg (by omega)]
    · rw [List.getElem?_eq_none (by simpa using hn)]; rfl

theorem lev_cell (O : Ok (cx w s0)) {a b : List Nat} {mc : Int} {pre post : Option V} {i j : Nat} {x y : Nat} (hx : a[j]? = some x) (hy : b[i]? = some y) (tx : tameC x = true) (ty : tameC y = true) (la : a.length ≤ 40)
    {res mn : Int} (hres : res = if j = 0 then (2 * i : Nat) else (tbl a b (i + 1) j : Nat)) {l12 l13 : Option V} {K : KF}
    (hK : ∀ (mn' : Int) (l12 l13 : Option V), mn' ≤ mn → mn' ≤ (tbl a b (i + 1) (j + 1) : Nat) → K .next ⟨σ ++ [.lst (rowV a b i (j + 1))], L3 a b mc pre post σ.length (tbl a b (i + 1) (j + 1) : Nat) (some (.d (.int i))) (some (chS y)) (some (.d (.int (tbl a b i (j + 1) : Nat)))) (some (.d (.int mn'))) (some (.d (.int j))) l12 l13⟩) :
    wpSs (cx w s0) (r + 1) lb_lev_4 ⟨σ ++ [.lst (rowV a b i j)], L3 a b mc pre post σ.length res (some (.d (.int i))) (some (chS y)) (some (.d (.int (tbl a b i j : Nat)))) (some (.d (.int mn))) (some (.d (.int j))) l12 l13⟩ K := by
  have hj : j < a.length := (List.getElem?_eq_some_iff.mp hx).1
  unfold lb_lev_4 L3 sv chS
  refine stp fun K1 hN hR hB => ?_
  (try dsimp only [wpS, wpE, List.getElem?_cons_succ, List.getElem?_cons_zero, wpEs, g_4, R.sb3])
  rw [at_nat]
  refine ⟨x, hx, by show a.length < _; omega, ?_⟩
  refine (tc_sub O ty tx ?_).tc
  (try dsimp only [R.b1, List.length_cons, List.length_nil, List.set])
  refine ⟨by (first | decide | (simp; done) | rfl), hN _ ?_⟩
  clear hN hR hB K1
  refine stp fun K1 hN hR hB => ?_
  (try dsimp only [wpS, wpE, List.getElem?_cons_succ, List.getElem?_cons_zero, R.sb4, List.length_cons, List.length_nil, List.set])
  rw [get_top]
  dsimp only
  refine ⟨_, rowV_get hj, by rw [rowV_len]; omega, by (first | decide | (simp; done) | rfl), hN _ ?_⟩
  clear hN hR hB K1
  refine stp fun K1 hN hR hB => ?_
  (try dsimp only [wpS, wpE, wpEs, List.getElem?_cons_succ, List.getElem?_cons_zero, g_18, g_2, R.bi6, R.b1, List.length_cons, List.length_nil, List.set])
  refine ⟨by (first | decide | (simp; done) | rfl), hN _ ?_⟩
  clear hN hR hB K1
  refine stp fun K1 hN hR hB => ?_
  (try dsimp only [wpS, wpE, wpEs, List.getElem?_cons_succ, List.getElem?_cons_zero, g_18, R.bi6, List.length_cons, List.length_nil, List.set])
  refine ⟨by (first | decide | (simp; done) | rfl), hN _ ?_⟩
  clear hN hR hB K1
  have hv : (if (((tbl a b i j : Nat) : Int) + ((subC y x : Nat) : Int)) < (if ((tbl a b i (j + 1) : Nat) : Int) < res then ((tbl a b i (j + 1) : Nat) : Int) else res) + 2 then (((tbl a b i j : Nat) : Int) + ((subC y x : Nat) : Int)) else (if ((tbl a b i (j + 1) : Nat) : Int) < res then ((tbl a b i (j + 1) : Nat) : Int) else res) + 2) = ((tbl a b (i + 1) (j + 1) : Nat) : Int) := by
    rcases Nat.eq_zero_or_pos j with h0 | h0
    · subst h0
      have h1 := tbl_step1 hx hy
      have h2 : tbl a b i 0 = 2 * i := tbl_zero (Nat.le_of_lt (List.getElem?_eq_some_iff.mp hy).1)
      rw [if_pos rfl] at hres
      rw [hres, h2]
      simp only [Nat.zero_add]
      split <;> split <;> omega
    · have h1 := tbl_step hx hy
      rw [if_neg (by omega)] at hres
      rw [hres]
      split <;> split <;> omega
  rw [hv]
  refine stp fun K1 hN hR hB => ?_
  (try dsimp only [wpS, wpE, List.getElem?_cons_succ, List.getElem?_cons_zero, R.ss1])
  rw [get_top]
  dsimp only
  rw [rowV_len]
  refine ⟨by omega, by omega, by omega, ?_⟩
  rw [set_top, show (j : Int).toNat = j from rfl, rowV_set hj]
  refine hN _ ?_
  clear hN hR hB K1
  refine stp fun K1 hN hR hB => ?_
  (try dsimp only [wpS, wpB, wpE, List.getElem?_cons_succ, List.getElem?_cons_zero, wpSs, R.cm1, R.tr1, List.length_cons, List.length_nil, List.set])
  refine ⟨fun h => ⟨by (first | decide | (simp; done) | rfl), hN _ (stn (hK _ _ _ (by have := of_decide_eq_true h; omega) (by omega)))⟩, fun h => hN _ (stn (hK _ _ _ (Int.le_refl _) (by have := of_decide_eq_false h; omega)))⟩
end

set_option maxRecDepth 100000
set_option maxHeartbeats 4000000

section
variable {w : World} {s0 : Shared} {r : Nat} {σ : List MObj}

theorem rowV_next {a b : List Nat} {i : Nat} : rowV a b i a.length = rowV a b (i + 1) 0 := by
  unfold rowV
  refine List.map_congr_left fun j hj => ?_
  rw [if_pos (by simpa using hj), if_neg (by omega)]

theorem lev_row (O : Ok (cx w s0)) {a b : List Nat} (ha : ∀ x ∈ a, tameC x = true) (hb : ∀ x ∈ b, tameC x = true) (la : a.length ≤ 40) (lb : b.length ≤ 40) (na : 1 ≤ a.length) {mc : Int} {pre post : Option V} {i : Nat} {y : Nat} (hy : b[i]? = some y)
    {res : Int} {l8 l9 l10 l11 l12 l13 : Option V} {K : KF}
    (hK : ∀ (l8 l9 l10 l11 l12 l13 : Option V), K .next ⟨σ ++ [.lst (rowV a b (i + 1) 0)], L3 a b mc pre post σ.length (tbl a b (i + 1) a.length : Nat) (some (.d (.int i))) l8 l9 l10 l11 l12 l13⟩)
    (hret : ∀ τ loc, mc < (lev a b : Nat) → K (.ret (.d (.int (mc + 1)))) ⟨σ ++ τ, loc⟩) :
    wpSs (cx w s0) (r + 1) lb_lev_6 ⟨σ ++ [.lst (rowV a b i 0)], L3 a b mc pre post σ.length res (some (.d (.int i))) l8 l9 l10 l11 l12 l13⟩ K := by
  have hi : i < b.length := (List.getElem?_eq_some_iff.mp hy).1
  have ty : tameC y = true := hb y (List.mem_of_getElem? hy)
  unfold lb_lev_6 L3 sv
  refine stp fun K1 hN hR hB => ?_
  (try dsimp only [wpS, wpE, List.getElem?_cons_succ, List.getElem?_cons_zero, R.sb3, List.length_cons, List.length_nil, List.set])
  rw [at_nat]
  refine ⟨y, hy, by show b.length < _; omega, by (first | decide | (simp; done) | rfl), hN _ ?_⟩
  clear hN hR hB K1
  refine stp fun K1 hN hR hB => ?_
  (try dsimp only [wpS, wpE, List.getElem?_cons_succ, List.getElem?_cons_zero, g_2, R.b3])
  refine ⟨mul_small (by (first | decide | (simp; done) | rfl)), by (first | decide | (simp; done) | rfl), by (first | decide | (simp; done) | rfl), hN _ ?_⟩
  clear hN hR hB K1
  refine stp fun K1 hN hR hB => ?_
  (try dsimp only [List.set, wpS, wpE, List.length_cons, List.length_nil])
  refine ⟨by (first | decide | (simp; done) | rfl), hN _ ?_⟩
  clear hN hR hB K1
  refine stp fun K1 hN hR hB => ?_
  (try dsimp only [wpS, wpE, wpEs, List.getElem?_cons_zero, g_16, g_21, R.bi1, R.bi12, R.it3])
  refine ⟨by show a.length < _; omega, ?_⟩
  rw [if_pos (by (first | decide | (simp; done) | rfl))]
  simp only [str_len]
  have h0 : tbl a b i 0 = 2 * i := tbl_zero (by omega)
  refine forK_inv (fun j st => j ≤ a.length ∧ ∃ (res mn : Int) (l11 l12 l13 : Option V), st = ⟨σ ++ [.lst (rowV a b i j)], L3 a b mc pre post σ.length res (some (.d (.int i))) (some (chS y)) (some (.d (.int (tbl a b i j : Nat)))) (some (.d (.int mn))) l11 l12 l13⟩ ∧ (res = if j = 0 then (2 * i : Nat) else (tbl a b (i + 1) j : Nat)) ∧ ∀ j', 1 ≤ j' → j' ≤ j → mn ≤ (tbl a b (i + 1) j' : Nat)) (fun _ _ => False) (fun _ => False) (fun _ _ _ => (by trivial)) ?_ ?_ ?_ (fun _ _ h => h.elim) (fun _ h => h.elim)
  · rintro j x st K2 ⟨hj, res, mn, l11, l12, l13, rfl, hres, hmn⟩ hx hN2 _ _
    obtain ⟨hj2, rfl⟩ := rng_get hx
    have hj3 : j < a.length := by omega
    simp only [bindT, L3, List.length_cons, List.length_nil]
    refine ⟨by omega, ?_⟩
    have hxx : a[j]? = some a[j] := List.getElem?_eq_getElem hj3
    rw [Int.zero_add]
    refine lev_cell O (res := res) (mn := mn) (pre := pre) (post := post) (mc := mc) hxx hy (ha _ (List.mem_of_getElem? hxx)) ty la hres fun mn' l12 l13 h1 h2 => hN2 _ ⟨hj3, _, mn', _, _, _, rfl, by simp, fun j' h3 h4 => ?_⟩
    rcases Nat.lt_or_ge j j' with h | h
    · have : j' = j + 1 := by omega
      rw [this]; exact h2
    · have := hmn j' h3 h; omega
  · refine ⟨by omega, 2 * i, 9223372036854775807, l11, l12, l13, ?_, by simp, fun j' h1 h2 => by omega⟩
    rw [h0, show (i : Int) * 2 = 2 * i by omega]
    rfl
  · rintro st' ⟨_, res, mn, l11, l12, l13, rfl, hres, hmn⟩
    rw [rng_len] at hmn hres ⊢
    simp only [Int.sub_zero, Int.toNat_natCast] at hmn hres ⊢
    refine hN _ ?_
    clear hN hR hB K1
    unfold tl_lev_5 L3
    refine stp fun K1 hN hR hB => ?_
    (try dsimp only [wpS, wpB, wpE, List.getElem?_cons_succ, List.getElem?_cons_zero, wpSs, R.cm3, R.tr1, R.b1])
    refine ⟨fun h => ?_, fun h => hN _ (stn ?_)⟩
    · have h := of_decide_eq_true h
      refine hR _ _ (hret _ _ ?_)
      obtain ⟨j, j1, j2, j3⟩ := tbl_min (a := a) (b := b) (i := i + 1) (by omega) hi na
      have := hmn j j1 j2
      omega
    · rw [if_neg (by omega)] at hres
      rw [hres, rowV_next]
      exact hK _ _ _ _ _ _
end

set_option maxRecDepth 100000
set_option maxHeartbeats 4000000

section
variable {w : World} {s0 : Shared} {r : Nat} {σ : List MObj}

theorem row0 {a b : List Nat} (na : 1 ≤ a.length) : (rangeL 2 (2 * ((a.length : Int) + 1)) 2).map D.int = rowV a b 0 0 := by
  unfold rangeL rangeLen rowV
  rw [if_pos (by omega)]
  have e : ((2 * ((a.length : Int) + 1) - 2 - 1) / 2 + 1).toNat = a.length := by omega
  rw [e, List.map_map]
  refine List.map_congr_left fun j hj => ?_
  have hj : j < a.length := by simpa using hj
  rw [if_neg (by omega), tbl_top (by omega)]
  simp only [Function.comp]
  congr 1
  omega

theorem lev_dp (O : Ok (cx w s0)) {a b : List Nat} (ha : ∀ x ∈ a, tameC x = true) (hb : ∀ x ∈ b, tameC x = true) (la : a.length ≤ 40) (lb : b.length ≤ 40) (na : 1 ≤ a.length) (nb : 1 ≤ b.length) {mc pre : Int} {post : Option V} {k : KF}
    (hk : ∀ τ loc (res : Int), (res = (lev a b : Nat) ∨ (res = mc + 1 ∧ mc < (lev a b : Nat))) → k (.ret (.d (.int res))) ⟨σ ++ τ, loc⟩) :
    wpSs (cx w s0) (r + 1) tl_lev_8 ⟨σ, L1 a b mc pre post⟩ k := by
  unfold tl_lev_8 L1 sv
  refine stp fun K hN hR hB => ?_
  (try dsimp only [wpS, wpE, wpEs, g_2, g_21, g_22, g_16, List.getElem?_cons_zero, R.bi1, R.b1, R.b3, R.bi14, R.bi15, newL, List.length_cons, List.length_nil, List.set])
  refine ⟨by show a.length < _; omega, mul_small (by simp only [str_len]; omega), by (first | decide | (simp; done) | rfl), by (first | decide | (simp; done) | rfl), ⟨by (first | decide | (simp; done) | rfl), by (first | decide | (simp; done) | rfl)⟩, ⟨by simp only [str_len]; omega, by simp only [str_len]; omega⟩, by (first | decide | (simp; done) | rfl), by (first | decide | (simp; done) | rfl), ?_, by (first | decide | (simp; done) | rfl), hN _ ?_⟩
  · simp only [str_len]; unfold rangeLen; split <;> omega
  clear hN hR hB K
  simp only [str_len]
  rw [row0 (b := b) na]
  refine stp fun K hN hR hB => ?_
  (try dsimp only [wpS, wpE, List.length_cons, List.length_nil, List.set])
  refine ⟨by (first | decide | (simp; done) | rfl), hN _ ?_⟩
  clear hN hR hB K
  refine stp fun K hN hR hB => ?_
  (try dsimp only [wpS, wpE, wpEs, List.getElem?_cons_succ, List.getElem?_cons_zero, g_16, g_21, R.bi1, R.bi12, R.it3])
  refine ⟨by show b.length < _; omega, ?_⟩
  rw [if_pos (by (first | decide | (simp; done) | rfl))]
  simp only [str_len]
  refine forK_inv (fun i st => i ≤ b.length ∧ ∃ (res : Int) (l7 l8 l9 l10 l11 l12 l13 : Option V), st = ⟨σ ++ [.lst (rowV a b i 0)], L3 a b mc (some (.d (.int pre))) post σ.length res l7 l8 l9 l10 l11 l12 l13⟩ ∧ (i = 0 ∨ res = (tbl a b i a.length : Nat))) (fun v st => ∃ τ loc, st = ⟨σ ++ τ, loc⟩ ∧ v = .d (.int (mc + 1)) ∧ mc < (lev a b : Nat)) (fun _ => False) (fun _ _ _ => (by trivial)) ?_ ⟨by omega, 0, none, none, none, none, none, none, none, rfl, .inl rfl⟩ ?_ ?_ (fun _ h => h.elim)
  · rintro i x st K2 ⟨hi, res, l7, l8, l9, l10, l11, l12, l13, rfl, hres⟩ hx hN2 hR2 _
    obtain ⟨hi2, rfl⟩ := rng_get hx
    have hi3 : i < b.length := by omega
    simp only [bindT, L3, List.length_cons, List.length_nil]
    refine ⟨by omega, ?_⟩
    rw [Int.zero_add]
    exact lev_row O ha hb la lb na (List.getElem?_eq_getElem hi3) (res := res) (fun l8 l9 l10 l11 l12 l13 => hN2 _ ⟨hi3, _, _, _, _, _, _, _, _, rfl, .inr rfl⟩) (fun τ loc h => hR2 _ _ ⟨τ, loc, rfl, rfl, h⟩)
  · rintro st' ⟨_, res, l7, l8, l9, l10, l11, l12, l13, rfl, hres⟩
    rw [rng_len] at hres ⊢
    simp only [Int.sub_zero, Int.toNat_natCast] at hres ⊢
    refine hN _ ?_
    have hl : tbl a b b.length a.length = lev a b := by unfold tbl; rw [List.take_length, List.take_length]
    rcases hres with h | h
    · omega
    unfold tl_lev_7 L3
    refine stp fun K1 hN hR hB => ?_
    (try dsimp only [wpS, wpE, List.getElem?_cons_succ, List.getElem?_cons_zero])
    refine hR _ _ (hk _ _ _ (.inl ?_))
    rw [h, hl]
  · rintro v st' ⟨τ, loc, rfl, rfl, h⟩
    exact hR _ _ (hk _ _ _ (.inr ⟨rfl, h⟩))

theorem lev_chk (O : Ok (cx w s0)) {a b : List Nat} (ha : ∀ x ∈ a, tameC x = true) (hb : ∀ x ∈ b, tameC x = true) (la : a.length ≤ 40) (lb : b.length ≤ 40) (na : 1 ≤ a.length) (nb : 1 ≤ b.length) (hab : a.length ≤ b.length) {mc pre : Int} {post : Option V} {k : KF}
    (hk : ∀ τ loc (res : Int), (res = (lev a b : Nat) ∨ (res = mc + 1 ∧ mc < (lev a b : Nat))) → k (.ret (.d (.int res))) ⟨σ ++ τ, loc⟩) :
    wpSs (cx w s0) (r + 1) tl_lev_9 ⟨σ, L1 a b mc pre post⟩ k := by
  unfold tl_lev_9 L1 sv
  refine stp fun K hN hR hB => ?_
  (try dsimp only [wpS, wpB, wpE, wpEs, List.getElem?_cons_succ, List.getElem?_cons_zero, g_16, wpSs, g_2, R.bi1, R.b2, R.b3, R.cm3, R.tr1, R.b1])
  simp only [str_len]
  refine ⟨by omega, by omega, mul_small (by (first | decide | (simp; done) | rfl)), fun h => hR _ _ ?_, fun _ => hN _ ?_⟩
  · have := hk [] [some (V.d (D.str { cps := a.toArray })), some (V.d (D.str { cps := b.toArray })), some (V.d (D.int mc)), some (V.d (D.int pre)), post, none, none, none, none, none, none, none, none, none] (mc + 1) (.inr ⟨rfl, by have h1 := of_decide_eq_true h; have h2 := @lev_len b a; rw [@lev_sym b a] at h2; omega⟩)
    rwa [List.append_nil] at this
  · exact lev_dp O ha hb la lb na nb hk

theorem lev_swp (O : Ok (cx w s0)) {a b : List Nat} (ha : ∀ x ∈ a, tameC x = true) (hb : ∀ x ∈ b, tameC x = true) (la : a.length ≤ 40) (lb : b.length ≤ 40) (na : 1 ≤ a.length) (nb : 1 ≤ b.length) {mc pre : Int} {post : Option V} {k : KF}
    (hk : ∀ τ loc (res : Int), (res = (lev a b : Nat) ∨ (res = mc + 1 ∧ mc < (lev a b : Nat))) → k (.ret (.d (.int res))) ⟨σ ++ τ, loc⟩) :
    wpSs (cx w s0) (r + 1) tl_lev_10 ⟨σ, L1 a b mc pre post⟩ k := by
  unfold tl_lev_10 L1 sv
  refine stp fun K hN hR hB => ?_
  (try dsimp only [wpS, wpB, wpE, wpEs, List.getElem?_cons_succ, List.getElem?_cons_zero, g_16, wpSs, R.bi1, R.cm1, R.tr1, R.td3, R.td2, List.length_cons, List.length_nil])
  simp only [str_len]
  refine ⟨by omega, by omega, fun h => ⟨by (first | decide | (simp; done) | rfl), by (first | decide | (simp; done) | rfl), by (first | decide | (simp; done) | rfl), hN _ ?_⟩, fun h => hN _ ?_⟩
  · exact lev_chk O hb ha lb la nb na (by have := of_decide_eq_true h; omega) (fun τ loc res h => hk τ loc res (by rw [@lev_sym a b]; exact h))
  · exact lev_chk O ha hb la lb na nb (by have := of_decide_eq_false h; omega) hk
end

set_option maxRecDepth 100000
set_option maxHeartbeats 4000000

section
variable {w : World} {s0 : Shared} {r : Nat} {σ : List MObj}

theorem lev_big (O : Ok (cx w s0)) {a b : List Nat} (ha : ∀ x ∈ a, tameC x = true) (hb : ∀ x ∈ b, tameC x = true) (la : a.length ≤ 40) (lb : b.length ≤ 40) (na : 1 ≤ a.length) (nb : 1 ≤ b.length) {mc pre : Int} {post : Option V} {k : KF}
    (hk : ∀ τ loc (res : Int), (res = (lev a b : Nat) ∨ (res = mc + 1 ∧ mc < (lev a b : Nat))) → k (.ret (.d (.int res))) ⟨σ ++ τ, loc⟩) :
    wpSs (cx w s0) (r + 1) tl_lev_11 ⟨σ, L1 a b mc pre post⟩ k := by
  unfold tl_lev_11 L1 sv
  refine stp fun K hN hR hB => ?_
  (try dsimp only [wpS, wpB, wpBs, wpE, wpEs, List.getElem?_cons_zero, g_16, wpSs, g_1, R.bi1, R.cm3, R.tr1, List.getElem?_cons_succ, R.b1])
  simp only [str_len]
  refine ⟨by omega, fun h => by have := of_decide_eq_true h; omega, fun _ => ⟨by omega, fun h => by have := of_decide_eq_true h; omega, fun _ => ⟨fun h => (by cases h), fun _ => hN _ ?_⟩⟩⟩
  exact lev_swp O ha hb la lb na nb hk

theorem neg_emp {l : List Nat} (h : (!(!l.toArray.isEmpty)) = true) : l = [] := by cases l with | nil => rfl | cons => simp at h
theorem neg_emp' {l : List Nat} (h : (!(!l.toArray.isEmpty)) = false) : 1 ≤ l.length := by cases l with | nil => simp at h | cons => simp

theorem lev_12 (O : Ok (cx w s0)) {a b : List Nat} (ha : ∀ x ∈ a, tameC x = true) (hb : ∀ x ∈ b, tameC x = true) (la : a.length ≤ 40) (lb : b.length ≤ 40) {mc pre : Int} {i : Nat} (h1 : i ≤ a.length) (h2 : i ≤ b.length) (h3 : a.drop (a.length - i) = b.drop (b.length - i)) {k : KF}
    (hk : ∀ τ loc (res : Int), (res = (lev a b : Nat) ∨ (res = mc + 1 ∧ mc < (lev a b : Nat))) → k (.ret (.d (.int res))) ⟨σ ++ τ, loc⟩) :
    wpSs (cx w s0) (r + 1) tl_lev_12 ⟨σ, L1 a b mc pre (some (.d (.int (bk i))))⟩ k := by
  have hl : lev (a.take (a.length - i)) (b.take (b.length - i)) = lev a b := by
    have := @lev_ends (a.drop (a.length - i)) (a.take (a.length - i)) (b.take (b.length - i))
    rw [List.take_append_drop, h3, List.take_append_drop] at this
    exact this.symm
  have ha' : ∀ x ∈ a.take (a.length - i), tameC x = true := fun x hx => ha x (List.mem_of_mem_take hx)
  have hb' : ∀ x ∈ b.take (b.length - i), tameC x = true := fun x hx => hb x (List.mem_of_mem_take hx)
  have la' : (a.take (a.length - i)).length ≤ 40 := by rw [List.length_take]; omega
  have lb' : (b.take (b.length - i)).length ≤ 40 := by rw [List.length_take]; omega
  have cutA : ∀ {l : List Nat}, i ≤ l.length → (bk i != 0) = true → cutOf l none (some (bk i)) = l.take (l.length - i) := by
    intro l h hb
    refine post_cut h ?_
    rcases Nat.eq_zero_or_pos i with h0 | h0
    · subst h0; cases hb
    · exact h0
  have cutB : ∀ {l : List Nat}, (bk i != 0) = false → cutOf l none none = l.take (l.length - i) := fun hb => by
    have : i = 0 := by unfold bk at hb; simpa using hb
    rw [this, cut_all, Nat.sub_zero, List.take_length]
  unfold tl_lev_12 L1 sv
  refine stp fun K hN hR hB => ?_
  (try dsimp only [wpS, wpE, List.getElem?_cons_zero, wpO, List.getElem?_cons_succ, R.tr2, R.sl3ni, List.length_cons, List.length_nil, List.set, R.sl3nn])
  have A : K .next ⟨σ, L1 (a.take (a.length - i)) b mc pre (some (.d (.int (bk i))))⟩ → ((bk i != 0) = true → (⟨a.toArray⟩ : Str).length < 2 ^ 23 ∧ 0 < 0 + 1 + 1 + 1 + 1 + 1 + 1 + 1 + 1 + 1 + 1 + 1 + 1 + 1 + 1 ∧ K .next ⟨σ, L1 (cutOf a none (some (bk i))) b mc pre (some (.d (.int (bk i))))⟩) ∧ ((bk i != 0) = false → (⟨a.toArray⟩ : Str).length < 2 ^ 23 ∧ 0 < 0 + 1 + 1 + 1 + 1 + 1 + 1 + 1 + 1 + 1 + 1 + 1 + 1 + 1 + 1 ∧ K .next ⟨σ, L1 (cutOf a none none) b mc pre (some (.d (.int (bk i))))⟩) := fun h =>
    ⟨fun e => ⟨by show a.length < _; omega, by (first | decide | (simp; done) | rfl), by rw [cutA h1 e]; exact h⟩, fun e => ⟨by show a.length < _; omega, by (first | decide | (simp; done) | rfl), by rw [cutB e]; exact h⟩⟩
  refine A (hN _ ?_)
  clear hN hR hB A K
  unfold L1 sv
  refine stp fun K hN hR hB => ?_
  (try dsimp only [wpS, wpE, List.getElem?_cons_succ, List.getElem?_cons_zero, wpO, R.tr2, R.sl3ni, List.length_cons, List.length_nil, List.set, R.sl3nn])
  have A : K .next ⟨σ, L1 (a.take (a.length - i)) (b.take (b.length - i)) mc pre (some (.d (.int (bk i))))⟩ → ((bk i != 0) = true → (⟨b.toArray⟩ : Str).length < 2 ^ 23 ∧ 1 < 0 + 1 + 1 + 1 + 1 + 1 + 1 + 1 + 1 + 1 + 1 + 1 + 1 + 1 + 1 ∧ K .next ⟨σ, L1 (a.take (a.length - i)) (cutOf b none (some (bk i))) mc pre (some (.d (.int (bk i))))⟩) ∧ ((bk i != 0) = false → (⟨b.toArray⟩ : Str).length < 2 ^ 23 ∧ 1 < 0 + 1 + 1 + 1 + 1 + 1 + 1 + 1 + 1 + 1 + 1 + 1 + 1 + 1 + 1 ∧ K .next ⟨σ, L1 (a.take (a.length - i)) (cutOf b none none) mc pre (some (.d (.int (bk i))))⟩) := fun h =>
    ⟨fun e => ⟨by show b.length < _; omega, by (first | decide | (simp; done) | rfl), by rw [cutA h2 e]; exact h⟩, fun e => ⟨by show b.length < _; omega, by (first | decide | (simp; done) | rfl), by rw [cutB e]; exact h⟩⟩
  refine A (hN _ ?_)
  clear hN hR hB A K
  generalize a.take (a.length - i) = a' at hl ha' la' ⊢
  generalize b.take (b.length - i) = b' at hl hb' lb' ⊢
  rw [← hl] at hk
  unfold L1 sv
  refine stp fun K hN hR hB => ?_
  (try dsimp only [wpS, wpB, wpBs, wpE, List.getElem?_cons_zero, wpSs, g_2, wpEs, g_16, R.tr3, R.bi1, List.getElem?_cons_succ, R.b1, R.b3])
  simp only [str_len]
  have fin : ∀ loc, (a' = [] ∨ b' = []) → K (.ret (.d (.int (2 * ((a'.length : Int) + (b'.length : Int)))))) ⟨σ, loc⟩ := fun loc h => hR _ _ (by
    have := hk [] loc (2 * ((a'.length : Int) + (b'.length : Int))) (.inl (by
      rcases h with h | h <;> rw [h]
      · rw [lev_nil]; simp
      · rw [lev_nil_r]; simp))
    rwa [List.append_nil] at this)
  refine ⟨by omega, fun h => ⟨fun _ => ⟨by omega, by omega, mul_small (by omega), fin _ (.inl (neg_emp h))⟩, fun e => (by cases e)⟩, fun h => ⟨by omega, fun h' => ⟨fun _ => ⟨by omega, by omega, mul_small (by omega), fin _ (.inr (neg_emp h'))⟩, fun e => (by cases e)⟩, fun h' => ⟨fun e => (by cases e), fun _ => hN _ ?_⟩⟩⟩
  exact lev_big O ha' hb' la' lb' (neg_emp' h) (neg_emp' h') hk

theorem tc_lev (O : Ok (cx w s0)) {a b : List Nat} (ha : ∀ x ∈ a, tameC x = true) (hb : ∀ x ∈ b, tameC x = true) (la : a.length ≤ 40) (lb : b.length ≤ 40) {mc : Int} (hS : Shut σ) {k : V → List MObj → Prop}
    (hk : ∀ res : Int, (res = (lev a b : Nat) ∨ (res = mc + 1 ∧ mc < (lev a b : Nat))) → k (.d (.int res)) σ) : TCc (cx w s0) (r + 2) 118 [sv a, sv b, .d (.int mc)] none σ k := by
  refine TC_drop hS (TC_def (std3 O nm_lev) (def_lev O.In) (bind_lev rfl) rfl (fun i hi => hi) ?_)
  unfold bd_lev sv
  refine stp fun K hN hR hB => ?_
  (try dsimp only [loc0, List.replicate, List.set, wpS, wpB, wpE, List.getElem?_cons_zero, wpSs, R.cm5, R.tr1, List.getElem?_cons_succ, R.eq3])
  rw [str_beq]
  refine ⟨fun h => hR _ _ ⟨_, [], rfl, by simp, hk 0 (.inl (by rw [of_decide_eq_true h, lev_self]; rfl))⟩, fun h => hN _ ?_⟩
  clear hN hR hB K
  unfold tl_lev_14
  refine stp fun K hN hR hB => ?_
  (try dsimp only [wpS, wpE, List.length_cons, List.length_nil, List.set])
  refine ⟨by (first | decide | (simp; done) | rfl), hN _ ?_⟩
  clear hN hR hB K
  refine stp fun K hN hR hB => lev_pre la lb fun i h1 h2 h3 => hN _ ?_
  clear hN hR hB K
  have hl : lev (a.drop i) (b.drop i) = lev a b := by
    have := @lev_fronts (a.take i) (a.drop i) (b.drop i)
    rw [List.take_append_drop, h3, List.take_append_drop] at this
    exact this.symm
  unfold tl_lev_13 L1 sv
  refine stp fun K hN hR hB => ?_
  (try dsimp only [wpS, wpE, List.getElem?_cons_zero, wpO, List.getElem?_cons_succ, R.sl3in, List.length_cons, List.length_nil, List.set])
  rw [cut_from h1]
  refine ⟨by show a.length < _; omega, by (first | decide | (simp; done) | rfl), hN _ ?_⟩
  clear hN hR hB K
  refine stp fun K hN hR hB => ?_
  (try dsimp only [wpS, wpE, List.getElem?_cons_succ, List.getElem?_cons_zero, wpO, R.sl3in, List.length_cons, List.length_nil, List.set])
  rw [cut_from h2]
  refine ⟨by show b.length < _; omega, by (first | decide | (simp; done) | rfl), hN _ ?_⟩
  clear hN hR hB K
  refine stp fun K hN hR hB => ?_
  (try dsimp only [wpS, wpE, List.length_cons, List.length_nil, List.set])
  refine ⟨by (first | decide | (simp; done) | rfl), hN _ ?_⟩
  clear hN hR hB K
  refine stp fun K hN hR hB => ?_
  have la' : (a.drop i).length ≤ 40 := by rw [List.length_drop]; omega
  have lb' : (b.drop i).length ≤ 40 := by rw [List.length_drop]; omega
  refine lev_post (a := a.drop i) (b := b.drop i) la' lb' fun j j1 j2 j3 => hN _ ?_
  refine lev_12 O (fun x hx => ha x (List.mem_of_mem_drop hx)) (fun x hx => hb x (List.mem_of_mem_drop hx)) la' lb' j1 j2 j3 fun τ loc res h => ?_
  rw [hl] at h
  exact ⟨_, τ, rfl, rfl, hk res h⟩
end

set_option maxRecDepth 100000
set_option maxHeartbeats 4000000

section
variable {w : World} {s0 : Shared} {r : Nat} {σ : List MObj}

noncomputable def Lw (top : Nat) (l : List Nat) (k : Nat) (s : WS) (l8 : Option V) : List (Option V) := [some (.inst top), some (sv l), some (.d (.str ⟨#[32]⟩)), some (.d (.str ⟨#[9]⟩)), some (.lst k), some (.d (.int s.b)), some (.d (.int s.n)), some (.d (.int s.nt)), l8]

theorem intsOf_get {c : List Nat} {b : Nat} (h : b < c.length) : atIdx (intsOf c) (b : Int) = some (.int (c.getD b 0 : Nat)) := by
  rw [at_nat]; unfold intsOf
  rw [List.getElem?_map, List.getElem?_eq_getElem h, Option.map_some, List.getD_eq_getElem?_getD, List.getElem?_eq_getElem h]
  rfl
theorem intsOf_set {c : List Nat} {b x : Nat} : (intsOf c).set b (.int (x : Int)) = intsOf (c.set b x) := by
  unfold intsOf; rw [List.map_set]
theorem intsOf_len {c : List Nat} : (intsOf c).length = c.length := by simp [intsOf]
theorem intsOf_app {c : List Nat} {n : Nat} : intsOf c ++ (List.replicate n [D.int 0]).flatten = intsOf (c ++ List.replicate n 0) := by
  unfold intsOf
  rw [List.map_append, List.map_replicate]
  congr 1
  induction n with
  | zero => rfl
  | succ n ih => rw [List.replicate_succ, List.flatten_cons, ih, List.replicate_succ]; rfl

theorem wsi_tail {l c' : List Nat} {b n nt : Nat} {τ : List MObj} {k' : Nat} {l8 : Option V} {K : KF} {m : MObj} (hτ : τ[k']? = some (.lst (intsOf c'))) (hb : b < c'.length) (hc : c'.length ≤ 2000)
    (hK : K .next ⟨σ ++ m :: τ.set k' (.lst (intsOf (c'.set b (c'.getD b 0 + 1)))), Lw σ.length l (σ.length + 1 + k') ⟨[], 0, n, nt⟩ l8⟩) :
    wpSs (cx w s0) r tl_wsi_0 ⟨σ ++ m :: τ, Lw σ.length l (σ.length + 1 + k') ⟨[], b, n, nt⟩ l8⟩ K := by
  unfold tl_wsi_0 Lw sv
  refine stp fun K1 hN hR hB => ?_
  (try dsimp only [wpS, wpE, List.getElem?_cons_succ, List.getElem?_cons_zero, R.sb4])
  rw [get_in, hτ]
  dsimp only
  refine ⟨_, intsOf_get hb, by rw [intsOf_len]; omega, ?_⟩
  (try dsimp only [R.b1, List.getElem?_cons_succ, List.getElem?_cons_zero, R.ss1])
  rw [get_in, hτ]
  dsimp only
  refine ⟨by omega, by rw [intsOf_len]; omega, by rw [intsOf_len]; omega, ?_⟩
  rw [set_in, show (b : Int).toNat = b from rfl, show ((c'.getD b 0 : Nat) : Int) + 1 = ((c'.getD b 0 + 1 : Nat) : Int) from rfl, intsOf_set]
  refine hN _ ?_
  clear hN hR hB K1
  refine stp fun K1 hN hR hB => ?_
  (try dsimp only [wpS, wpE, List.length_cons, List.length_nil, List.set])
  exact ⟨by (first | decide | (simp; done) | rfl), hN _ (stn hK)⟩

theorem wsi_body {l : List Nat} {s : WS} {ch : Nat} {τ : List MObj} {k' : Nat} {l8 : Option V} {K : KF} {m : MObj} (hτ : τ[k']? = some (.lst (intsOf s.c))) (hb : s.b ≤ 900) (hc : s.c.length ≤ 900)
    (hK : ∀ τ' k'', isB ch = true → τ'[k'']? = some (.lst (intsOf (wsStep s ch).c)) → K .next ⟨σ ++ m :: τ', Lw σ.length l (σ.length + 1 + k'') (wsStep s ch) (some (chS ch))⟩)
    (hbrk : isB ch = false → K .brk ⟨σ ++ m :: τ, Lw σ.length l (σ.length + 1 + k') s (some (chS ch))⟩) :
    wpSs (cx w s0) r lb_wsi_1 ⟨σ ++ m :: τ, Lw σ.length l (σ.length + 1 + k') s (some (chS ch))⟩ K := by
  unfold lb_wsi_1 Lw sv chS
  refine stp fun K1 hN hR hB => ?_
  (try dsimp only [wpS, wpB, wpE, List.getElem?_cons_succ, List.getElem?_cons_zero, R.cm5, R.tr1, R.eq3])
  rw [strq]
  refine ⟨fun h => ?_, fun h => ?_⟩
  · have h := of_decide_eq_true h
    subst h
    refine stp fun K2 hN2 hR2 hB2 => ?_
    (try dsimp only [wpS, wpE, List.getElem?_cons_succ, List.getElem?_cons_zero, R.b1, List.length_cons, List.length_nil, List.set])
    refine ⟨by (first | decide | (simp; done) | rfl), hN2 _ ?_⟩
    refine stp fun K3 hN3 hR3 hB3 => ?_
    (try dsimp only [wpS, wpE, List.getElem?_cons_succ, List.getElem?_cons_zero, R.b1, List.length_cons, List.length_nil, List.set])
    refine ⟨by (first | decide | (simp; done) | rfl), hN3 _ (stn (hN _ (stn ?_)))⟩
    exact hK τ k' rfl hτ
  · have h := of_decide_eq_false h
    refine stp fun K2 hN2 hR2 hB2 => ?_
    (try dsimp only [wpS, wpB, wpE, List.getElem?_cons_succ, List.getElem?_cons_zero, R.cm5, R.tr1, R.eq3])
    rw [strq]
    refine ⟨fun h' => ?_, fun h' => ?_⟩
    · have h' := of_decide_eq_true h'
      subst h'
      refine stp fun K3 hN3 hR3 hB3 => ?_
      (try dsimp only [wpS, wpE, List.getElem?_cons_succ, List.getElem?_cons_zero, R.b1, List.length_cons, List.length_nil, List.set])
      refine ⟨by (first | decide | (simp; done) | rfl), hN3 _ ?_⟩
      clear hN3 hR3 hB3 K3
      refine stp fun K3 hN3 hR3 hB3 => ?_
      (try dsimp only [wpS, wpE, List.getElem?_cons_succ, List.getElem?_cons_zero, R.b1, List.length_cons, List.length_nil, List.set])
      refine ⟨by (first | decide | (simp; done) | rfl), hN3 _ ?_⟩
      clear hN3 hR3 hB3 K3
      refine stp fun K3 hN3 hR3 hB3 => ?_
      (try dsimp only [wpS, wpB, wpE, List.getElem?_cons_succ, List.getElem?_cons_zero, wpSs, wpEs, R.td3, R.td2, g_16, newL, List.length_cons, List.length_nil, R.bi4, R.cm4, R.tr1, R.b2, R.b1, R.b8, R.b9ll, R.lol, List.set])
      rw [get_in, hτ]
      dsimp only
      simp only [intsOf_len]
      have hlt : k' < τ.length := (List.getElem?_eq_some_iff.mp hτ).1
      refine ⟨by omega, fun hg => ⟨by (first | decide | (simp; done) | rfl), by omega, ?_, ⟨by omega, by omega⟩, ?_⟩, fun hg => ?_⟩
      · have := of_decide_eq_true hg
        omega
      · have hg := of_decide_eq_true hg
        have e1 : (σ ++ m :: τ ++ [MObj.lst (List.replicate ((s.b : Int) - (s.c.length : Int) + 1).toNat [D.int 0]).flatten])[σ.length + 1 + k']? = some (MObj.lst (intsOf s.c)) := by
          rw [app_mid, get_in, List.getElem?_append_left hlt, hτ]
        have e2 : (σ ++ m :: τ ++ [MObj.lst (List.replicate ((s.b : Int) - (s.c.length : Int) + 1).toNat [D.int 0]).flatten])[(σ ++ m :: τ).length]? = some (MObj.lst (List.replicate ((s.b : Int) - (s.c.length : Int) + 1).toNat [D.int 0]).flatten) := get_top
        rw [e1, e2]
        dsimp only
        have e3 : ((s.b : Int) - (s.c.length : Int) + 1).toNat = s.b - s.c.length + 1 := by omega
        rw [e3, intsOf_app]
        refine ⟨by rw [← List.length_append, intsOf_app, intsOf_len, List.length_append, List.length_replicate]; unfold sizeLine; omega, by (first | decide | (simp; done) | rfl), hN3 _ ?_⟩
        have e4 : (σ ++ m :: τ ++ [MObj.lst (List.replicate (s.b - s.c.length + 1) [D.int 0]).flatten]).length = σ.length + 1 + (τ.length + 1) := by simp; omega
        rw [e4, app_mid, app_mid]
        refine wsi_tail (c' := s.c ++ List.replicate (s.b - s.c.length + 1) 0) (b := s.b) (n := s.n + 1) (nt := s.nt + 1) (k' := τ.length + 1) (l8 := some (chS 9)) ?_ (by simp; omega) (by simp; omega) ?_
        · rw [List.getElem?_append_right (by simp)]; simp
        · refine hN2 _ (stn (hN _ (stn ?_)))
          have hbp : bump s.c s.b = (s.c ++ List.replicate (s.b - s.c.length + 1) 0).set s.b ((s.c ++ List.replicate (s.b - s.c.length + 1) 0).getD s.b 0 + 1) := by unfold bump; rw [if_pos (by omega)]
          refine hK _ (τ.length + 1) rfl ?_
          rw [show (wsStep s 9).c = bump s.c s.b from rfl, hbp]
          rw [List.getElem?_set, if_pos rfl, if_pos (by simp)]
      · have hg := of_decide_eq_false hg
        refine hN3 _ (wsi_tail (c' := s.c) (b := s.b) (n := s.n + 1) (nt := s.nt + 1) (k' := k') (l8 := some (chS 9)) hτ (by omega) (by omega) ?_)
        refine hN2 _ (stn (hN _ (stn ?_)))
        have hbp : bump s.c s.b = s.c.set s.b (s.c.getD s.b 0 + 1) := by unfold bump; rw [if_neg (by omega)]
        refine hK _ k' rfl ?_
        rw [show (wsStep s 9).c = bump s.c s.b from rfl, hbp, List.getElem?_set, if_pos rfl, if_pos hlt]
    · have h' := of_decide_eq_false h'
      refine stp fun K3 hN3 hR3 hB3 => ?_
      (try dsimp only [wpS])
      exact hB3 _ (hB2 _ (hB _ (hbrk (by unfold isB; simp [h, h']))))
end

set_option maxRecDepth 100000
set_option maxHeartbeats 4000000

section
variable {w : World} {s0 : Shared} {r : Nat} {σ : List MObj}

theorem wsi_end {l : List Nat} {s : WS} {τ : List MObj} {k' : Nat} {l8 : Option V} {K : KF} (hτ : τ[k']? = some (.lst (intsOf s.c))) (hc : s.c.length ≤ 900)
    (hK : ∀ loc, K .next ⟨σ ++ MObj.inst 100 [0, 1, 2, 3, 4] [sv l, .d (.int s.n), .d (.int s.nt), .d (.tup [.tup (intsOf s.c), .int s.b]), .d (.bool (decide (s.c.length ≤ 1)))] :: τ, loc⟩) :
    wpSs (cx w s0) r tl_wsi_2 ⟨σ ++ MObj.inst 100 [0] [sv l] :: τ, Lw σ.length l (σ.length + 1 + k') s l8⟩ K := by
  unfold tl_wsi_2 Lw
  refine stp fun K1 hN hR hB => ?_
  (try dsimp only [wpS, wpE, List.getElem?_cons_succ, List.getElem?_cons_zero, R.sa1])
  rw [get_mid]
  dsimp only
  rw [set_mid]
  refine ⟨by (first | decide | (simp; done) | rfl), by (first | decide | (simp; done) | rfl), by (first | decide | (simp; done) | rfl), hN _ ?_⟩
  clear hN hR hB K1
  refine stp fun K1 hN hR hB => ?_
  (try dsimp only [List.cons_append, List.nil_append, wpS, wpE, List.getElem?_cons_succ, List.getElem?_cons_zero, R.sa1])
  rw [get_mid]
  dsimp only
  rw [set_mid]
  refine ⟨by (first | decide | (simp; done) | rfl), by (first | decide | (simp; done) | rfl), by (first | decide | (simp; done) | rfl), hN _ ?_⟩
  clear hN hR hB K1
  refine stp fun K1 hN hR hB => ?_
  (try dsimp only [List.cons_append, List.nil_append, wpS, wpE, wpEs, List.getElem?_cons_succ, List.getElem?_cons_zero, g_24, R.bi17, R.td3, R.sa1, R.td2, List.length_cons, List.length_nil])
  rw [get_in, hτ]
  dsimp only
  rw [get_mid]
  dsimp only
  rw [set_mid]
  refine ⟨by rw [intsOf_len]; omega, by (first | decide | (simp; done) | rfl), by (first | decide | (simp; done) | rfl), by (first | decide | (simp; done) | rfl), by (first | decide | (simp; done) | rfl), hN _ ?_⟩
  clear hN hR hB K1
  refine stp fun K1 hN hR hB => ?_
  (try dsimp only [List.cons_append, List.nil_append, wpS, wpE, wpEs, List.getElem?_cons_succ, List.getElem?_cons_zero, g_16, R.bi4, R.cm2, R.sa1])
  rw [get_in, hτ]
  dsimp only
  rw [get_mid]
  dsimp only
  rw [set_mid]
  refine ⟨by rw [intsOf_len]; omega, by (first | decide | (simp; done) | rfl), by (first | decide | (simp; done) | rfl), by (first | decide | (simp; done) | rfl), hN _ (stn ?_)⟩
  rw [intsOf_len]
  have e : decide ((s.c.length : Int) ≤ 1) = decide (s.c.length ≤ 1) := by by_cases h : s.c.length ≤ 1 <;> simp [h] <;> omega
  rw [e]
  exact hK _

theorem wp_wsi (O : Ok (cx w s0)) {l : List Nat} (hl : l.length ≤ 800) {K : KF}
    (hK : ∀ τ loc, K .next ⟨σ ++ MObj.inst 100 [0, 1, 2, 3, 4] ((wsD l).map .d) :: τ, loc⟩) :
    wpSs (cx w s0) r bd_wsi ⟨σ ++ [MObj.inst 100 [] []], loc0 9 [0, 1] [.inst σ.length, sv l]⟩ K := by
  unfold bd_wsi sv
  refine stp fun K1 hN hR hB => ?_
  (try dsimp only [loc0, List.replicate, List.set, wpS, wpE, List.getElem?_cons_succ, List.getElem?_cons_zero, R.sa1])
  rw [get_mid]
  dsimp only
  rw [set_mid]
  refine ⟨by (first | decide | (simp; done) | rfl), by (first | decide | (simp; done) | rfl), by (first | decide | (simp; done) | rfl), hN _ ?_⟩
  clear hN hR hB K1
  refine stp fun K1 hN hR hB => ?_
  (try dsimp only [List.nil_append, wpS, wpEs, wpE, c_0, c_1, R.td3, R.td2, List.length_cons, List.length_nil])
  rw [s_sp, s_tab]
  refine ⟨by (first | decide | (simp; done) | rfl), by (first | decide | (simp; done) | rfl), by (first | decide | (simp; done) | rfl), hN _ ?_⟩
  clear hN hR hB K1
  refine stp fun K1 hN hR hB => ?_
  (try dsimp only [List.set, wpS, wpE, wpEs, R.td2, newL, List.length_cons, List.length_nil])
  refine ⟨by (first | decide | (simp; done) | rfl), by (first | decide | (simp; done) | rfl), hN _ ?_⟩
  clear hN hR hB K1
  refine stp fun K1 hN hR hB => ?_
  (try dsimp only [wpS, wpE])
  refine ⟨by (first | decide | (simp; done) | rfl), by (first | decide | (simp; done) | rfl), by (first | decide | (simp; done) | rfl), hN _ ?_⟩
  clear hN hR hB K1
  have e : σ ++ [MObj.inst 100 [0] [V.d (D.str ⟨l.toArray⟩)]] ++ [MObj.lst []] = σ ++ MObj.inst 100 [0] [sv l] :: [MObj.lst (intsOf [])] := by simp [sv, intsOf]
  have e2 : (σ ++ [MObj.inst 100 [0] [V.d (D.str ⟨l.toArray⟩)]]).length = σ.length + 1 + 0 := by simp
  rw [e, e2]
  refine stp fun K1 hN hR hB => ?_
  (try dsimp only [List.set, wpS, wpE, List.getElem?_cons_zero, R.at2])
  rw [get_mid]
  dsimp only
  refine ⟨by (first | decide | (simp; done) | rfl), by (first | decide | (simp; done) | rfl), sv l, rfl, ?_⟩
  dsimp only [sv]
  have fin : ∀ τ k' l8, τ[k']? = some (MObj.lst (intsOf (wsOf l).c)) → K1 .next ⟨σ ++ MObj.inst 100 [0] [sv l] :: τ, Lw σ.length l (σ.length + 1 + k') (wsOf l) l8⟩ := fun τ k' l8 hτ => by
    refine hN _ (wsi_end hτ ?_ fun loc => hK τ loc)
    have h1 := ws_bound (l.takeWhile isB)
    have h2 : (l.takeWhile isB).length ≤ l.length := (List.takeWhile_sublist _).length_le
    unfold wsOf; omega
  refine forK_inv (fun i st => i ≤ l.length ∧ (∀ x ∈ l.take i, isB x = true) ∧ ∃ τ k' l8, τ[k']? = some (MObj.lst (intsOf (wsRun (l.take i)).c)) ∧ st = ⟨σ ++ MObj.inst 100 [0] [sv l] :: τ, Lw σ.length l (σ.length + 1 + k') (wsRun (l.take i)) l8⟩) (fun _ _ => False)
    (fun st => ∃ τ k' l8, τ[k']? = some (MObj.lst (intsOf (wsOf l).c)) ∧ st = ⟨σ ++ MObj.inst 100 [0] [sv l] :: τ, Lw σ.length l (σ.length + 1 + k') (wsOf l) l8⟩) (fun _ _ _ => (by trivial)) ?_ ?_ ?_ (fun _ _ h => h.elim) ?_
  · rintro i x st K2 ⟨hi, hall, τ, k', l8, hτ, rfl⟩ hx hN2 hR2 hB2
    rw [List.getElem?_map] at hx
    obtain ⟨ch, hch, rfl⟩ := Option.map_eq_some_iff.mp hx
    have hch' : l[i]? = some ch := hch
    have hi' : i < l.length := (List.getElem?_eq_some_iff.mp hch').1
    simp only [bindT, Lw, List.length_cons, List.length_nil]
    refine ⟨by omega, ?_⟩
    have hb := ws_bound (l.take i)
    rw [List.length_take] at hb
    refine wsi_body (l8 := l8) (s := wsRun (l.take i)) (k' := k') (ch := ch) hτ (by omega) (by omega) (fun τ' k'' hB' hτ' => ?_) (fun hB' => ?_)
    · refine hN2 _ ⟨hi', fun y hy => ?_, τ', k'', some (chS ch), ?_, ?_⟩
      · rw [take_snoc hch'] at hy
        rcases List.mem_append.mp hy with hy | hy
        · exact hall y hy
        · simp at hy; rw [hy]; exact hB'
      · rw [take_snoc hch', wsRun_snoc]; exact hτ'
      · rw [take_snoc hch', wsRun_snoc]
    · refine hB2 _ ⟨τ, k', some (chS ch), ?_, ?_⟩
      · unfold wsOf; rw [takeWhile_stop hall hch' hB']; exact hτ
      · unfold wsOf; rw [takeWhile_stop hall hch' hB']
  · exact ⟨by omega, by simp, _, 0, none, rfl, rfl⟩
  · rintro st' ⟨_, hall, τ, k', l8, hτ, rfl⟩
    have hlen : ((l.toArray.toList.map fun ch => V.d (D.str ⟨#[ch]⟩))).length = l.length := by simp
    rw [hlen, List.take_length] at hall hτ
    rw [hlen, List.take_length]
    have hw : wsOf l = wsRun l := by unfold wsOf; rw [takeWhile_all hall]
    rw [← hw] at hτ ⊢
    exact fin τ k' l8 hτ
  · rintro st' ⟨τ, k', l8, hτ, rfl⟩
    exact fin τ k' l8 hτ

/-- a Whitespace is made -/
theorem tc_ws (O : Ok (cx w s0)) {l : List Nat} (hl : l.length ≤ 800) (hS : Shut σ) {k : V → List MObj → Prop} (hk : k (.d (.ws (wsD l))) σ) : TCc (cx w s0) (r + 2) 100 [sv l] none σ k := by
  refine TC_ws O hS (TC_new O (by show (100 : Nat) ∈ [100, 262]; decide) (by kernel_rfl) (by kernel_rfl : findIn (KK w.params) (.ref 100) "__init__" = some (some (.ref 55))) (by kernel_rfl) (TC_def (std3 O nm_wsi) (def_wsi O.In) (bind_wsi rfl) rfl (fun i hi => hi) ?_))
  exact wp_wsi O hl fun τ loc => ⟨rfl, wsD l, τ, rfl, rfl, hk⟩
end

set_option maxRecDepth 100000
set_option maxHeartbeats 4000000

section
variable {w : World} {s0 : Shared} {r : Nat} {σ : List MObj}

noncomputable def wsV (raw : D) (s : WS) : V := .d (.ws [raw, .int s.n, .int s.nt, normD s, .bool (simpleW s)])
theorem tc_run (O : Ok (cx w s0)) {raw : D} {s : WS} (hc : s.c.length ≤ 1000) {k : V → List MObj → Prop} (hk : k (.d (.int (runW s))) σ) : TCc (cx w s0) (r + 1) 62 [wsV raw s] none σ k := by
  refine TC_def (std3 O nm_run) (def_run O.In) (bind_run rfl) rfl (fun i hi => hi) ?_
  unfold bd_run wsV
  refine stp fun K1 hN hR hB => ?_
  (try dsimp only [loc0, List.replicate, List.set, wpS, wpE, List.getElem?_cons_zero, R.at1, List.getElem?_cons_succ])
  refine ⟨_, rfl, ?_⟩
  unfold normD
  skip
  refine ⟨by (first | decide | (simp; done) | rfl), by (first | decide | (simp; done) | rfl), hN _ ?_⟩
  clear hN hR hB K1
  refine stp fun K1 hN hR hB => ?_
  (try dsimp only [List.set, wpS, wpE, wpEs, List.getElem?_cons_succ, List.getElem?_cons_zero, g_16, g_17, R.bi3, R.b2, R.bi5])
  refine ⟨by rw [intsOf_len]; omega, hR _ _ ?_⟩
  rw [intsOf_len]
  exact hk

theorem tc_ind (O : Ok (cx w s0)) {raw : D} {s : WS} {ts : Nat} (h0 : 1 ≤ ts) (h1 : ts ≤ 1000) (hc : s.c.length ≤ 1000) {k : V → List MObj → Prop} (hk : k (.d (.int (indW s ts : Nat))) σ) : TCc (cx w s0) (r + 1) 69 [wsV raw s, .d (.int ts)] none σ k := by
  refine TC_def (std3 O nm_ind) (def_ind O.In) (bind_ind rfl) rfl (fun i hi => hi) ?_
  unfold bd_ind wsV
  refine stp fun K1 hN hR hB => ?_
  (try dsimp only [loc0, List.replicate, List.set, wpS, wpE, List.getElem?_cons_zero, R.at1, List.getElem?_cons_succ])
  refine ⟨_, rfl, ?_⟩
  unfold normD
  skip
  refine ⟨by (first | decide | (simp; done) | rfl), by (first | decide | (simp; done) | rfl), hN _ ?_⟩
  clear hN hR hB K1
  refine stp fun K1 hN hR hB => ?_
  (try dsimp only [List.set, wpS, wpE, List.length_cons, List.length_nil])
  refine ⟨by (first | decide | (simp; done) | rfl), hN _ ?_⟩
  clear hN hR hB K1
  refine stp fun K1 hN hR hB => ?_
  (try dsimp only [wpS, wpE, wpEs, List.getElem?_cons_succ, List.getElem?_cons_zero, g_21, g_16, R.bi3, R.bi13, R.it3])
  rw [if_pos (by (first | decide | (simp; done) | rfl))]
  dsimp only
  rw [intsOf_len]
  refine ⟨by omega, ?_⟩
  refine forK_inv (fun m st => m ≤ s.c.length - ts ∧ ∃ l5, st = ⟨σ, [some (wsV raw s), some (.d (.int ts)), some (.d (.tup (intsOf s.c))), some (.d (.int s.b)), some (.d (.int (ilW s.c ts m : Nat))), l5]⟩) (fun _ _ => False) (fun _ => False) (fun _ _ _ => (by trivial)) ?_ ⟨by omega, none, rfl⟩ ?_ (fun _ _ h => h.elim) (fun _ h => h.elim)
  · rintro m x st K2 ⟨hm, l5, rfl⟩ hx hN2 _ _
    obtain ⟨hx2, rfl⟩ := rng_get hx
    simp only [bindT, List.length_cons, List.length_nil]
    refine ⟨by omega, ?_⟩
    unfold lb_ind_0
    refine stp fun K3 hN3 hR3 hB3 => ?_
    (try dsimp only [List.set, wpS, wpE, List.getElem?_cons_succ, List.getElem?_cons_zero, R.b4, R.sb2])
    have e : (ts : Int) + (m : Int) = ((ts + m : Nat) : Int) := rfl
    have hlt : ts + m < s.c.length := by omega
    rw [e]
    refine ⟨by omega, div_small (by omega) (by omega), _, intsOf_get hlt, by rw [intsOf_len]; omega, ?_, by (first | decide | (simp; done) | rfl), hN3 _ (stn (hN2 _ ⟨by omega, some (.d (.int ((ts + m : Nat) : Int))), ?_⟩))⟩
    · refine IntMulOk.of_left (bits_small ?_)
      rw [← Int.ofNat_fdiv, Int.natAbs_natCast]
      have := Nat.div_le_self (ts + m) ts
      omega
    · rw [← Int.ofNat_fdiv]
      rfl
  · rintro st' ⟨_, l5, rfl⟩
    rw [rng_len]
    refine hN _ ?_
    clear hN hR hB K1
    unfold tl_ind_1 wsV
    refine stp fun K1 hN hR hB => ?_
    (try dsimp only [wpS, wpE, List.getElem?_cons_succ, List.getElem?_cons_zero, R.at1])
    refine ⟨_, rfl, ?_⟩
    (try dsimp only [R.b1, R.b3])
    refine ⟨IntMulOk.of_left (bits_small (by omega)), hR _ _ ?_⟩
    have e : ((s.c.length : Int) - (ts : Int)).toNat = s.c.length - ts := by omega
    rw [e]
    unfold indW at hk
    exact hk

theorem allW_step {s o : WS} {m n : Nat} (h : allW s o n = true) (hm : m < n) : indW s (2 + m) < indW o (2 + m) := by
  induction n with
  | zero => omega
  | succ n ih =>
    dsimp only [allW] at h; simp only [Bool.and_eq_true, decide_eq_true_eq] at h
    rcases Nat.lt_or_ge m n with h' | h'
    · exact ih h.1 h'
    · have : m = n := by omega
      subst this; exact h.2

theorem tc_less (O : Ok (cx w s0)) {raw raw' : D} {s o : WS} (hc : s.c.length ≤ 900) (hc' : o.c.length ≤ 900) (hb : s.b ≤ 900) (hb' : o.b ≤ 900) {k : V → List MObj → Prop} (hk : k (.d (.bool (lessW s o))) σ) : TCc (cx w s0) (r + 2) 90 [wsV raw s, wsV raw' o] none σ k := by
  refine TC_def (std3 O nm_less) (def_less O.In) (bind_less rfl) rfl (fun i hi => hi) ?_
  unfold bd_less
  refine stp fun K1 hN hR hB => ?_
  unfold wsV
  (try dsimp only [loc0, List.replicate, List.set, wpS, wpB, wpE, List.getElem?_cons_zero, wpSs, R.at1, List.getElem?_cons_succ])
  refine ⟨_, rfl, _, rfl, ?_⟩
  (try dsimp only [R.cm4, R.tr1])
  refine ⟨fun h => hR _ _ ?_, fun h => hN _ ?_⟩
  · have h := of_decide_eq_true h
    unfold lessW at hk
    rw [if_pos (by omega)] at hk
    exact hk
  clear hN hR hB K1
  have h := of_decide_eq_false h
  unfold tl_less_3
  refine stp fun K1 hN hR hB => ?_
  (try dsimp only [wpS, wpB, wpBs, wpE, List.getElem?_cons_zero, wpSs, R.at1, List.getElem?_cons_succ])
  have hlt : ¬ s.n ≥ o.n := by omega
  refine ⟨_, rfl, ?_⟩
  (try dsimp only [R.tr1, List.getElem?_cons_succ, List.getElem?_cons_zero, R.at1])
  have rest : (simpleW s && simpleW o) = false → K1 .next ⟨σ, [some (wsV raw s), some (wsV raw' o), none, none]⟩ := fun hs => by
    refine hN _ ?_
    clear hN hR hB K1
    unfold tl_less_2
    refine stp fun K1 hN hR hB => ?_
    (try dsimp only [wpS, wpE, wpEs, List.getElem?_cons_zero, Option.map, g_17, m_0, List.getElem?_cons_succ])
    refine ⟨rfl, (tc_run O (raw := raw) (s := s) (by omega) ?_).tc⟩
    refine ⟨rfl, (tc_run O (raw := raw') (s := o) (by omega) ?_).tc⟩
    (try dsimp only [R.bi5, R.b1, List.length_cons, List.length_nil, List.set])
    refine ⟨by (first | decide | (simp; done) | rfl), hN _ ?_⟩
    clear hN hR hB K1
    refine stp fun K1 hN hR hB => ?_
    (try dsimp only [wpS, wpE, wpEs, List.getElem?_cons_succ, List.getElem?_cons_zero, g_21, R.b1, R.bi13, R.it3])
    rw [if_pos (by (first | decide | (simp; done) | rfl))]
    dsimp only
    have htop : topW s o ≤ 1000 := by unfold topW runW; split <;> split <;> split <;> omega
    refine forK_inv (fun m st => m ≤ (topW s o - 1).toNat ∧ allW s o m = true ∧ ∃ l3, st = ⟨σ, [some (wsV raw s), some (wsV raw' o), some (.d (.int (topW s o))), l3]⟩) (fun v st => v = .d (.bool false) ∧ st.σ = σ ∧ allW s o (topW s o - 1).toNat = false) (fun _ => False) (fun _ _ _ => (by trivial)) ?_ ⟨by omega, rfl, none, rfl⟩ ?_ ?_ (fun _ h => h.elim)
    · rintro m x st K2 ⟨hm, hall, l3, rfl⟩ hx hN2 hR2 _
      obtain ⟨hx2, rfl⟩ := rng_get hx
      have hx2 : (2 : Int) + m < topW s o + 1 := hx2
      simp only [bindT, List.length_cons, List.length_nil]
      refine ⟨by omega, ?_⟩
      unfold lb_less_0
      refine stp fun K3 hN3 hR3 hB3 => ?_
      have e : (2 : Int) + (m : Int) = ((2 + m : Nat) : Int) := by omega
      rw [e]
      (try dsimp only [List.set, wpS, wpB, wpE, List.getElem?_cons_zero, Option.map, wpEs, m_1, List.getElem?_cons_succ])
      refine ⟨rfl, (tc_ind O (raw := raw) (s := s) (ts := 2 + m) (by omega) (by omega) (by omega) ?_).tc⟩
      refine ⟨rfl, (tc_ind O (raw := raw') (s := o) (ts := 2 + m) (by omega) (by omega) (by omega) ?_).tc⟩
      (try dsimp only [wpSs, wpS, wpE, R.cm4, R.tr1])
      refine ⟨fun hg => hR3 _ _ (hR2 _ _ ⟨rfl, rfl, ?_⟩), fun hg => hN3 _ (stn (hN2 _ ⟨by omega, ?_, _, rfl⟩))⟩
      · have hg := of_decide_eq_true hg
        cases q : allW s o (topW s o - 1).toNat with
        | false => rfl
        | true => have := allW_step q (m := m) (by omega); omega
      · have hg := of_decide_eq_false hg
        dsimp only [allW]; simp only [hall, Bool.true_and, decide_eq_true_eq]; omega
    · rintro st' ⟨_, hall, l3, rfl⟩
      rw [rng_len] at hall
      refine hN _ ?_
      unfold tl_less_1
      refine stp fun K3 hN3 hR3 hB3 => ?_
      (try dsimp only [wpS, wpE])
      refine hR3 _ _ ?_
      have e : ((topW s o + 1) - 2).toNat = (topW s o - 1).toNat := by congr 1; omega
      unfold lessW at hk
      rw [if_neg hlt, hs] at hk
      have hall' : allW s o (topW s o - 1).toNat = true := by rw [← e]; exact hall
      rw [hall'] at hk
      exact hk
    · rintro v st' ⟨rfl, hσ, hall⟩
      refine hR _ _ ?_
      unfold lessW at hk
      rw [if_neg hlt, hs, hall] at hk
      simp only [retK]
      rw [hσ]
      exact hk
  refine ⟨fun h1 => ⟨_, rfl, ?_⟩, fun h1 => ⟨fun e => (by cases e), fun _ => rest (by rw [h1]; rfl)⟩⟩
  (try dsimp only [R.tr1, List.getElem?_cons_zero, R.at1, List.getElem?_cons_succ])
  refine ⟨fun h2 => ⟨fun _ => ⟨_, rfl, ?_⟩, fun e => (by cases e)⟩, fun h2 => ⟨fun e => (by cases e), fun _ => rest (by rw [h1, h2]; rfl)⟩⟩
  refine ⟨_, rfl, ?_⟩
  (try dsimp only [R.cm2])
  refine hR _ _ ?_
  unfold lessW at hk
  rw [if_neg hlt, h1, h2] at hk
  have e : decide ((s.nt : Int) ≤ (o.nt : Int)) = decide (s.nt ≤ o.nt) := by rw [Bool.eq_iff_iff]; simp
  simp only [retK]
  rw [e]
  exact hk
end

set_option maxRecDepth 100000
set_option maxHeartbeats 4000000

section
variable {w : World} {s0 : Shared} {r : Nat} {σ : List MObj}

theorem tc_conv (O : Ok (cx w s0)) {self : V} {l : List Nat} {b : Bool} (hl : l.length ≤ 1000) (ht : (if b then shown ⟨l.toArray⟩ else tame ⟨l.toArray⟩) = true) {k : V → List MObj → Prop} (hk : k (sv l) σ) : TCc (cx w s0) (r + 1) 163 [self, sv l] (some b) σ k := by
  refine TC_def (std3 O nm_conv) (def_conv O.In) (bind_conv rfl) rfl (fun i hi => hi) ?_
  unfold bd_conv sv
  refine stp fun K1 hN hR hB => ?_
  (try dsimp only [List.cons_append, List.nil_append, loc0, List.replicate, List.set, wpS, wpB, wpE, wpEs, List.getElem?_cons_succ, List.getElem?_cons_zero, g_25, g_26, R.bi18, R.cm13, R.tr1])
  refine ⟨fun _ => ?_, fun e => (by cases e)⟩
  refine stp fun K2 hN2 hR2 hB2 => ?_
  (try dsimp only [wpS, wpE, wpB, List.getElem?_cons_succ, List.getElem?_cons_zero, g_6, g_7, R.tr1, List.length_cons, List.length_nil, List.set])
  cases b with
  | true =>
    refine ⟨fun _ => ⟨by (first | decide | (simp; done) | rfl), hN2 _ ?_⟩, fun e => (by cases e)⟩
    refine stp fun K3 hN3 hR3 hB3 => ?_
    (try dsimp only [wpS, wpB, wpE, List.getElem?_cons_succ, List.getElem?_cons_zero, Option.map, wpEs, R.ba3, R.bm6, R.tr4])
    refine ⟨(by trivial), ⟨6, _, g_6⟩, ht, by show l.length ≤ _; omega, fun e => (by cases e), fun _ => hN3 _ ?_⟩
    unfold tl_conv_0
    refine stp fun K4 hN4 hR4 hB4 => ?_
    (try dsimp only [wpS, wpE, List.getElem?_cons_succ, List.getElem?_cons_zero])
    exact hR4 _ _ (hR _ _ hk)
  | false =>
    refine ⟨fun e => (by cases e), fun _ => ⟨by (first | decide | (simp; done) | rfl), hN2 _ ?_⟩⟩
    refine stp fun K3 hN3 hR3 hB3 => ?_
    (try dsimp only [wpS, wpB, wpE, List.getElem?_cons_succ, List.getElem?_cons_zero, Option.map, wpEs, R.ba3, R.bm6, R.tr4])
    refine ⟨(by trivial), ⟨7, _, g_7⟩, ht, by show l.length ≤ _; omega, fun e => (by cases e), fun _ => hN3 _ ?_⟩
    unfold tl_conv_0
    refine stp fun K4 hN4 hR4 hB4 => ?_
    (try dsimp only [wpS, wpE, List.getElem?_cons_succ, List.getElem?_cons_zero])
    exact hR4 _ _ (hR _ _ hk)

theorem wp_hdi (O : Ok (cx w s0)) {K : KF}
    (hK : ∀ loc, K .next ⟨σ ++ [MObj.inst 262 [5] [.lst (σ.length + 1)], .lst []], loc⟩) :
    wpSs (cx w s0) r bd_hdi ⟨σ ++ [MObj.inst 262 [] []], loc0 4 [0, 1] [.inst σ.length, .d .none]⟩ K := by
  unfold bd_hdi
  refine stp fun K1 hN hR hB => ?_
  (try dsimp only [loc0, List.replicate, List.set, wpS, wpE, wpB, List.getElem?_cons_succ, List.getElem?_cons_zero, wpEs, R.td2, newL, List.length_nil, R.cm10, R.tr1, List.length_cons])
  refine ⟨fun e => (by cases e), fun _ => ⟨by (first | decide | (simp; done) | rfl), by (first | decide | (simp; done) | rfl), hN _ ?_⟩⟩
  clear hN hR hB K1
  have e1 : (σ ++ [MObj.inst 262 [] []]).length = σ.length + 1 := by simp
  have e2 : σ ++ [MObj.inst 262 [] []] ++ [MObj.lst []] = σ ++ MObj.inst 262 [] [] :: [MObj.lst []] := by simp
  rw [e1, e2]
  refine stp fun K1 hN hR hB => ?_
  (try dsimp only [wpS, wpB, wpE, wpEs, List.getElem?_cons_succ, List.getElem?_cons_zero, g_25, g_22, R.bi19, R.cm14, R.tr1])
  have e3 : (σ ++ MObj.inst 262 [] [] :: [MObj.lst []])[σ.length + 1]? = some (.lst []) := get_in (k := 0)
  rw [e3]
  dsimp only
  refine ⟨fun e => (by cases e), fun _ => hN _ ?_⟩
  clear hN hR hB K1
  unfold tl_hdi_1
  refine stp fun K1 hN hR hB => ?_
  (try dsimp only [wpS, wpE, List.getElem?_cons_succ, List.getElem?_cons_zero, R.sa1])
  rw [get_mid]
  dsimp only
  rw [set_mid]
  refine ⟨by (first | decide | (simp; done) | rfl), by (first | decide | (simp; done) | rfl), by (first | decide | (simp; done) | rfl), hN _ ?_⟩
  clear hN hR hB K1
  refine stp fun K1 hN hR hB => ?_
  (try dsimp only [List.nil_append, wpS, wpB, wpE, R.tr1])
  refine ⟨fun _ => ?_, fun e => (by cases e)⟩
  refine stp fun K2 hN2 hR2 hB2 => ?_
  (try dsimp only [wpS, wpE, List.getElem?_cons_succ, List.getElem?_cons_zero, R.it5])
  have e4 : (σ ++ MObj.inst 262 [5] [V.lst (σ.length + 1)] :: [MObj.lst []])[σ.length + 1]? = some (.lst []) := get_in (k := 0)
  rw [e4]
  dsimp only
  exact And.intro e4 (hN2 _ (stn (hN _ (stn (hK _)))))

theorem tc_hd (O : Ok (cx w s0)) {k : V → List MObj → Prop} (hk : k (.inst σ.length) (σ ++ [MObj.inst 262 [5] [.lst (σ.length + 1)], .lst []])) : TCc (cx w s0) (r + 2) 262 [] none σ k := by
  refine TC_new O (by show (262 : Nat) ∈ [100, 262]; decide) (by kernel_rfl) (by kernel_rfl : findIn (KK w.params) (.ref 262) "__init__" = some (some (.ref 156))) (by kernel_rfl) (TC_def (std3 O nm_hdi) (def_hdi O.In) (bind_hdi O rfl) rfl (fun i hi => hi) ?_)
  exact wp_hdi O fun loc => ⟨rfl, hk⟩
end

set_option maxRecDepth 100000
set_option maxHeartbeats 4000000

section
variable {w : World} {s0 : Shared} {r : Nat} {σ : List MObj}

noncomputable def tblD (T : List (List Nat × List Nat)) : List D := T.map fun kv => .tup [.str ⟨kv.1.toArray⟩, .str ⟨kv.2.toArray⟩]
noncomputable def hdσ (σ : List MObj) (T : List (List Nat × List Nat)) : List MObj := σ ++ [MObj.inst 262 [5] [.lst (σ.length + 1)], .lst (tblD T)]
theorem hd_len {T : List (List Nat × List Nat)} : (hdσ σ T).length = σ.length + 2 := by simp [hdσ]
theorem hd_get0 {T : List (List Nat × List Nat)} {υ : List MObj} : (hdσ σ T ++ υ)[σ.length]? = some (MObj.inst 262 [5] [.lst (σ.length + 1)]) := by
  rw [List.getElem?_append_left (by rw [hd_len]; omega)]; exact get_mid
theorem hd_get1 {T : List (List Nat × List Nat)} {υ : List MObj} : (hdσ σ T ++ υ)[σ.length + 1]? = some (MObj.lst (tblD T)) := by
  rw [List.getElem?_append_left (by rw [hd_len]; omega)]; exact get_in (k := 0)
theorem hd_set {T T' : List (List Nat × List Nat)} {υ : List MObj} : (hdσ σ T ++ υ).set (σ.length + 1) (.lst (tblD T')) = hdσ σ T' ++ υ := by
  rw [List.set_append_left _ _ (by rw [hd_len]; omega)]
  congr 1
  exact set_in (k := 0)
theorem hd_shut {T : List (List Nat × List Nat)} (hS : Shut σ) : Shut (hdσ σ T) := by
  intro m hm
  rcases List.mem_append.mp hm with h | h
  · have := hS m h
    cases m with
    | lst ds => trivial
    | inst C ns vs =>
      intro v hv
      have := this v hv
      rw [hd_len]
      cases v <;> simp only [V.lt] at * <;> omega
  · simp at h
    rcases h with rfl | rfl
    · intro v hv
      simp at hv
      subst hv
      rw [hd_len]
      show σ.length + 1 < σ.length + 2
      omega
    · trivial
theorem hd_get2 {T : List (List Nat × List Nat)} {x : MObj} : (hdσ σ T ++ [x])[σ.length + 2]? = some x := by rw [← hd_len (T := T)]; exact get_top
theorem hd_set2 {T : List (List Nat × List Nat)} {x y : MObj} : (hdσ σ T ++ [x]).set (σ.length + 2) y = hdσ σ T ++ [y] := by rw [← hd_len (T := T)]; exact set_top
theorem join_one {s v : Str} : Str.join s [v] = v := by
  simp [Str.join]

theorem tc_add (O : Ok (cx w s0)) {T : List (List Nat × List Nat)} {kl vl : List Nat} (hS : Shut σ) (hk : kl.length ≤ 1000) (hv : vl.length ≤ 1000) (sk : shown ⟨kl.toArray⟩ = true) (tv : tame ⟨vl.toArray⟩ = true) (hT : T.length ≤ 1000) {k : V → List MObj → Prop}
    (hK : k (.d .none) (hdσ σ (T ++ [(kl, vl)]))) : TCc (cx w s0) (r + 2) 259 [.inst σ.length, sv kl, sv vl] none (hdσ σ T) k := by
  refine TC_cut (TC_def (std3 O nm_add) (def_add O.In) (bind_add O rfl) rfl (fun i hi => hi) ?_)
  unfold bd_add
  refine stp fun K1 hN hR hB => ?_
  (try dsimp only [List.cons_append, List.nil_append, loc0, List.replicate, List.set, wpS, wpE, wpEs, R.td2, newL, List.length_cons, List.length_nil])
  refine ⟨by (first | decide | (simp; done) | rfl), by (first | decide | (simp; done) | rfl), hN _ ?_⟩
  clear hN hR hB K1
  rw [hd_len]
  refine stp fun K1 hN hR hB => ?_
  unfold sv
  (try dsimp only [wpS, wpB, wpE, List.getElem?_cons_succ, List.getElem?_cons_zero, R.cm11, R.tr1])
  refine ⟨fun _ => ?_, fun e => (by cases e)⟩
  refine stp fun K2 hN2 hR2 hB2 => ?_
  (try dsimp only [wpS, wpE, List.getElem?_cons_zero, Option.map, wpEs, m_3, List.getElem?_cons_succ, List.length_cons, List.length_nil, List.set, R.cl2])
  rw [hd_get0]
  refine ⟨rfl, (tc_conv O (self := .inst σ.length) (l := vl) (b := false) hv tv ?_).tc⟩
  skip
  refine ⟨by (first | decide | (simp; done) | rfl), hN2 _ ?_⟩
  refine stp fun K3 hN3 hR3 hB3 => ?_
  unfold sv
  (try dsimp only [wpS, wpE, List.getElem?_cons_succ, List.getElem?_cons_zero, Option.map, wpEs, R.ba1, R.bm5])
  rw [hd_get2]
  refine ⟨(by trivial), ⟨_, rfl⟩, ?_⟩
  dsimp only
  rw [hd_set2]
  refine ⟨by (first | decide | (simp; done) | rfl), (by trivial), hN3 _ (stn (hN _ ?_))⟩
  clear hN2 hR2 hB2 hN3 hR3 hB3 hN hR hB K1 K2 K3
  unfold tl_add_1
  refine stp fun K1 hN hR hB => ?_
  (try dsimp only [List.nil_append, wpS, List.getElem?_cons_succ, List.getElem?_cons_zero])
  refine hN _ ?_
  clear hN hR hB K1
  unfold tl_add_0
  refine stp fun K1 hN hR hB => ?_
  (try dsimp only [wpS, wpE, List.getElem?_cons_zero, Option.map, wpEs, R.ba6, R.bm3, m_3, R.at2, List.getElem?_cons_succ, R.lol, R.cl2])
  rw [hd_get0]
  refine ⟨by (first | decide | (simp; done) | rfl), by (first | decide | (simp; done) | rfl), .lst (σ.length + 1), rfl, ?_⟩
  (try dsimp only [R.ba1, R.bm5])
  rw [hd_get1]
  refine ⟨(by trivial), ⟨_, rfl⟩, rfl, (tc_conv O (self := .inst σ.length) (l := kl) (b := true) hk sk ?_).tc⟩
  unfold sv
  (try dsimp only [R.td3, R.td2, List.length_cons, List.length_nil])
  rw [hd_get2]
  have hj : (Str.ofString "; ").length = 2 := by decide +kernel
  refine ⟨(by trivial), (by trivial), _, [⟨vl.toArray⟩], rfl, rfl, by simp only [List.map_cons, List.map_nil, List.sum_cons, List.sum_nil, List.length_cons, List.length_nil, str_len, hj]; omega, by simp, ?_⟩
  skip
  rw [hd_get1]
  dsimp only
  refine ⟨by (first | decide | (simp; done) | rfl), by simp [tblD]; omega, (by trivial), hN _ (stn ?_)⟩
  have e : tblD T ++ [D.tup [D.str ⟨kl.toArray⟩, D.str (Str.join (Str.ofString "; ") [⟨vl.toArray⟩])]] = tblD (T ++ [(kl, vl)]) := by
    rw [join_one]; simp [tblD]
  rw [e, hd_set]
  exact ⟨.none, _, _, rfl, rfl, hd_len, hd_shut hS, hK⟩
end

set_option maxRecDepth 100000
set_option maxHeartbeats 4000000

section
variable {w : World} {s0 : Shared} {r : Nat} {σ : List MObj}

theorem low_str {l : List Nat} : (⟨Array.map (fun ch => if 65 ≤ ch ∧ ch ≤ 90 then ch + 32 else ch) l.toArray⟩ : Str) = ⟨(lowL l).toArray⟩ := by
  rw [List.map_toArray]; rfl
theorem tbl_get {T : List (List Nat × List Nat)} {j : Nat} {x : V} (h : ((tblD T).map V.d)[j]? = some x) : ∃ kv, T[j]? = some kv ∧ x = .d (.tup [.str ⟨kv.1.toArray⟩, .str ⟨kv.2.toArray⟩]) := by
  unfold tblD at h
  rw [List.map_map, List.getElem?_map] at h
  obtain ⟨kv, h1, h2⟩ := Option.map_eq_some_iff.mp h
  exact ⟨kv, h1, h2.symm⟩
noncomputable def strsOf (ls : List (List Nat)) : List D := ls.map fun l => .str ⟨l.toArray⟩

theorem tc_get (O : Ok (cx w s0)) {T : List (List Nat × List Nat)} {nl : List Nat} (hn : nl.length ≤ 1000) (tn : tame ⟨nl.toArray⟩ = true) (sn : shown ⟨(lowL nl).toArray⟩ = true) (hT : T.length ≤ 1000)
    (hk : ∀ kv ∈ T, kv.1.length ≤ 1000 ∧ tame ⟨kv.1.toArray⟩ = true) {k : V → List MObj → Prop}
    (hK : k (.d (.list (strsOf (getT T (lowL nl))))) (hdσ σ T)) : TCc (cx w s0) (r + 2) 201 [.inst σ.length, sv nl] none (hdσ σ T) k := by
  refine TC_def (std3 O nm_get) (def_get O.In) (bind_get rfl) rfl (fun i hi => hi) ?_
  unfold bd_get sv
  refine stp fun K1 hN hR hB => ?_
  (try dsimp only [loc0, List.replicate, List.set, wpS, wpE, List.getElem?_cons_zero, Option.map, wpEs, m_3, List.getElem?_cons_succ, R.ba4, R.bm1, List.length_cons, List.length_nil, R.cl2])
  have h0 : (hdσ σ T)[σ.length]? = some (MObj.inst 262 [5] [.lst (σ.length + 1)]) := by have := hd_get0 (σ := σ) (T := T) (υ := []); rwa [List.append_nil] at this
  have h1 : (hdσ σ T)[σ.length + 1]? = some (MObj.lst (tblD T)) := by have := hd_get1 (σ := σ) (T := T) (υ := []); rwa [List.append_nil] at this
  rw [h0, low_str]
  refine ⟨rfl, (by trivial), (by trivial), tn, by show nl.length ≤ _; omega, (tc_conv O (self := .inst σ.length) (l := lowL nl) (b := true) (by simp [lowL]; omega) sn ?_).tc⟩
  unfold sv
  skip
  refine ⟨by (first | decide | (simp; done) | rfl), hN _ ?_⟩
  clear hN hR hB K1
  refine stp fun K1 hN hR hB => ?_
  dsimp only [wpS]
  refine comp1 fun B hB2 => ?_
  (try dsimp only [wpE, List.getElem?_cons_zero, R.at2])
  rw [h0]
  refine ⟨by (first | decide | (simp; done) | rfl), by (first | decide | (simp; done) | rfl), .lst (σ.length + 1), rfl, ?_⟩
  (try dsimp only [R.it5])
  rw [h1]
  dsimp only
  refine loopG_inv (fun j st acc => ∃ l2, st = ⟨hdσ σ T, [some (.inst σ.length), some (sv (lowL nl)), l2]⟩ ∧ acc = strsOf (getT (T.take j) (lowL nl))) (fun j st acc ⟨l2, e, _⟩ => by subst e; exact h1) ?_ ⟨none, rfl, rfl⟩ ?_
  · rintro j x st acc K2 ⟨l2, rfl, rfl⟩ hx hN2
    obtain ⟨kv, hkv, rfl⟩ := tbl_get hx
    obtain ⟨k1, k2⟩ := hk kv (List.mem_of_getElem? hkv)
    refine hB2 _ _ _ _ ?_
    unfold sv
    (try dsimp only [wpE, wpBs, wpB, Option.map, R.cm5, R.tr1, wpEs, bindT, List.length_cons, List.length_nil, List.set, List.getElem?_cons_succ, List.getElem?_cons_zero, R.sb2])
    refine ⟨by (first | decide | (simp; done) | rfl), _, rfl, by (first | decide | (simp; done) | rfl), (by trivial), (by trivial), k2, k1, ?_⟩
    rw [low_str]
    (try dsimp only [List.getElem?_cons_succ, List.getElem?_cons_zero, R.eq3, R.sb2, List.length_cons, List.length_nil, R.td1])
    rw [str_beq]
    have hlen : (getT (T.take j) (lowL nl)).length ≤ 1000 := by
      unfold getT
      rw [List.length_map]
      have := List.length_filter_le (fun kv : List Nat × List Nat => decide (lowL kv.1 = lowL nl)) (T.take j)
      rw [List.length_take] at this
      omega
    have hsn : T.take (j + 1) = T.take j ++ [kv] := by rw [List.take_add_one, hkv]; rfl
    have hd : T.take (j + 1) = T.take j ++ [kv] := hsn
    have hl2 : (strsOf (getT (T.take j) (lowL nl))).length < 2 ^ 20 := by unfold strsOf; rw [List.length_map]; omega
    refine ⟨fun e => ⟨fun _ => ⟨_, rfl, by (first | decide | (simp; done) | rfl), hl2, hN2 _ _ ⟨_, rfl, ?_⟩⟩, fun e => (by cases e)⟩, fun e => ⟨fun e => (by cases e), fun _ => hN2 _ _ ⟨_, rfl, ?_⟩⟩⟩
    · rw [hd]
      unfold getT
      rw [List.filter_append, List.filter_cons, if_pos e, List.filter_nil, List.map_append]
      simp [strsOf]
    · rw [hd]
      unfold getT
      rw [List.filter_append, List.filter_cons, if_neg (by rw [e]; decide), List.filter_nil, List.append_nil]
  · rintro st' acc' ⟨l2, rfl, rfl⟩
    refine hR _ _ ?_
    have e : ((tblD T).map V.d).length = T.length := by simp [tblD]
    rw [e, List.take_length]
    exact hK
end

set_option maxRecDepth 100000
set_option maxHeartbeats 4000000

section
variable {w : World} {s0 : Shared} {r : Nat} {σ : List MObj}
theorem bag_of {b : Nat} (hb : b < 4) : bagL b = [] ∨ bagL b = [1] ∨ bagL b = [2] ∨ bagL b = [1, 3] := by
  have : b = 0 ∨ b = 1 ∨ b = 2 ∨ b = 3 := by omega
  rcases this with rfl | rfl | rfl | rfl
  · exact .inl rfl
  · exact .inr (.inl rfl)
  · exact .inr (.inr (.inl rfl))
  · exact .inr (.inr (.inr rfl))
theorem bag_len {b : Nat} (hb : b < 4) : (bagL b).length ≤ 2 := by rcases bag_of hb with h | h | h | h <;> rw [h] <;> decide
theorem bag_rev {b : Nat} (hb : b < 4) : pickL (intsOf (bagL b)) none none (some (-1)) = intsOf (bagL b).reverse := by rcases bag_of hb with h | h | h | h <;> rw [h] <;> rfl
theorem runs_len {m b : Nat} (hb : b < 4) : (runsL m b).length ≤ 2 := by
  unfold runsL; split
  · exact bag_len hb
  · rw [List.length_reverse]; exact bag_len hb
theorem runs_le {m b : Nat} (hb : b < 4) : ∀ x ∈ runsL m b, x ≤ 3 := by
  unfold runsL
  rcases bag_of hb with h | h | h | h <;> rw [h] <;> split <;> decide
theorem runs_idx {m b : Nat} : atIdx [D.list (intsOf (bagL b)), D.list (intsOf (bagL b).reverse)] ((m / 16 % 2 : Nat) : Int) = some (.list (intsOf (runsL m b))) := by
  rw [at_nat]; unfold runsL
  rcases Nat.mod_two_eq_zero_or_one (m / 16) with h | h <;> rw [h] <;> rfl
theorem rep_str {n ch : Nat} : (⟨(List.replicate (n : Int).toNat (⟨#[ch]⟩ : Str).cps.toList).flatten.toArray⟩ : Str) = ⟨(List.replicate n ch).toArray⟩ := by
  have : (List.replicate (n : Int).toNat (⟨#[ch]⟩ : Str).cps.toList).flatten = List.replicate n ch := flat_rep n
  rw [this]

theorem ints_at {c : List Nat} {j : Nat} {x : V} (h : ((intsOf c).map V.d)[j]? = some x) : j < c.length ∧ x = .d (.int (c.getD j 0 : Nat)) := by
  have hj : j < c.length := by have := (List.getElem?_eq_some_iff.mp h).1; simpa [intsOf] using this
  refine ⟨hj, ?_⟩
  rw [List.getElem?_map, intsOf, List.getElem?_map, List.getElem?_eq_getElem hj] at h
  rw [List.getD_eq_getElem?_getD, List.getElem?_eq_getElem hj]
  simpa using h.symm
theorem strsD_of : ∀ ls : List (List Nat), strsD (strsOf ls) = some (ls.map fun l => (⟨l.toArray⟩ : Str))
  | [] => rfl
  | l :: ls => by
    show (match strsD (strsOf ls) with | some x => some ((⟨l.toArray⟩ : Str) :: x) | none => none) = _
    rw [strsD_of ls]; rfl
theorem join_nil : ∀ ls : List (List Nat), Str.join ⟨([] : List Nat).toArray⟩ (ls.map fun l => (⟨l.toArray⟩ : Str)) = ⟨ls.flatten.toArray⟩
  | [] => rfl
  | [l] => by show (⟨l.toArray⟩ : Str) = _; simp
  | l :: l2 :: ls => by
    have ih := join_nil (l2 :: ls)
    show (⟨l.toArray⟩ : Str) ++ ⟨([] : List Nat).toArray⟩ ++ Str.join ⟨([] : List Nat).toArray⟩ ((l2 :: ls).map fun l => (⟨l.toArray⟩ : Str)) = _
    rw [ih, str_app (a := l) (b := []), List.append_nil, str_app (a := l)]; rfl
noncomputable def partsL (m b : Nat) : List (List Nat) := (runsL m b).map fun r => List.replicate r 32 ++ [9]
theorem parts_le {m b : Nat} (hb : b < 4) : (((partsL m b).map fun l => (⟨l.toArray⟩ : Str)).map fun x => x.length).sum ≤ 100 := by
  unfold partsL runsL
  rcases bag_of hb with h | h | h | h <;> rw [h] <;> split <;> decide
theorem body_len {m b : Nat} (hb : b < 4) : (bodyL m b).length ≤ 100 := by
  unfold bodyL runsL
  rcases bag_of hb with h | h | h | h <;> rw [h] <;> split <;> decide
theorem head_idx {m b : Nat} : atIdx [D.str ⟨(List.replicate (m % 4) 9 ++ bodyL m b).toArray⟩, D.str ⟨(bodyL m b ++ List.replicate (m % 4) 9).toArray⟩] ((m / 32 % 2 : Nat) : Int) = some (.str ⟨(headL m b).toArray⟩) := by
  rw [at_nat]; unfold headL
  rcases Nat.mod_two_eq_zero_or_one (m / 32) with h | h <;> rw [h] <;> rfl

theorem tc_lead (O : Ok (cx w s0)) {n : Int} {b : Nat} (hb : b < 4) (hS : Shut σ) {k : V → List MObj → Prop} (hK : k (sv (tail2 (leadL (resN n) b))) σ) :
    TCc (cx w s0) (r + 1) 271 [.d (.int n), .d (.list (intsOf (bagL b)))] none σ k := by
  have hm := @res_lt n
  refine TC_def (std3 O nm_lead) (def_lead O.In) (bind_lead rfl) rfl (fun i hi => hi) ?_
  unfold bd_lead
  refine stp fun K1 hN hR hB => ?_
  (try dsimp only [loc0, List.replicate, List.set, wpS, wpE, List.getElem?_cons_zero, R.b5, R.b7, List.length_cons, List.length_nil])
  rw [res_tabs, s_tab, rep_str]
  refine ⟨by (first | decide | (simp; done) | rfl), by show (resN n % 4) * 1 ≤ 1000; omega, ⟨by omega, by omega⟩, by (first | decide | (simp; done) | rfl), hN _ ?_⟩
  clear hN hR hB K1
  refine stp fun K1 hN hR hB => ?_
  (try dsimp only [wpS, wpE, wpEs, List.getElem?_cons_succ, List.getElem?_cons_zero, newL, wpO, R.un1, R.sl2nn, R.b4, R.b5, R.sb1, List.length_cons, List.length_nil, List.set, R.td3, R.td2])
  rw [bag_rev hb, res_rev]
  have hbl : (intsOf (bagL b)).length ≤ 2 := by rw [intsOf_len]; exact bag_len hb
  refine ⟨by omega, by (first | decide | (simp; done) | rfl), by (first | decide | (simp; done) | rfl), by (first | decide | (simp; done) | rfl), div_small (by (first | decide | (simp; done) | rfl)) (by (first | decide | (simp; done) | rfl)), by (first | decide | (simp; done) | rfl), _, runs_idx, by (first | decide | (simp; done) | rfl), by (first | decide | (simp; done) | rfl), hN _ ?_⟩
  clear hN hR hB K1
  refine stp fun K1 hN hR hB => ?_
  (try dsimp only [wpS, wpE, R.ba6, wpEs, R.bm3, R.lof, List.length_cons, List.length_nil, List.set])
  refine ⟨(by trivial), (by trivial), ?_⟩
  refine wpG_map ?_
  (try dsimp only [wpE, List.getElem?_cons_succ, List.getElem?_cons_zero])
  have hlen : ((intsOf (runsL (resN n) b)).map V.d).length = (runsL (resN n) b).length := by rw [List.length_map, intsOf_len]
  have hrl := runs_len (m := resN n) hb
  refine ⟨_, ⟨rfl, (intsOf (runsL (resN n) b)).map V.d, none, rfl, (by trivial), by rw [hlen]; omega, by (first | decide | (simp; done) | rfl), fun j => D.str ⟨(List.replicate ((runsL (resN n) b).getD j 0) 32 ++ [9]).toArray⟩, fun j x hx K hK2 => ?_, rfl⟩, fun st' e => ?_⟩
  · obtain ⟨hj, rfl⟩ := ints_at hx
    have hle : (runsL (resN n) b).getD j 0 ≤ 3 := by
      rw [List.getD_eq_getElem?_getD, List.getElem?_eq_getElem hj]
      exact runs_le hb _ (List.getElem_mem hj)
    dsimp only at hK2
    generalize (runsL (resN n) b).getD j 0 = q at *
    (try dsimp only [List.set, List.getElem?_cons_succ, List.getElem?_cons_zero, R.b7, R.b6])
    rw [s_sp, s_tab, rep_str, str_app (b := [9])]
    refine ⟨by show q * 1 ≤ 1000; omega, ⟨by omega, by omega⟩, by show (List.replicate q 32).length + 1 ≤ _; rw [List.length_replicate, sizeLine_eq]; omega, ?_⟩
    skip
    exact hK2
  · rw [e, hlen]
    have eo : (List.range (runsL (resN n) b).length).map (fun j => D.str ⟨(List.replicate ((runsL (resN n) b).getD j 0) 32 ++ [9]).toArray⟩) = strsOf (partsL (resN n) b) := by
      refine (range_getD (g := fun q => D.str ⟨(List.replicate q 32 ++ [9]).toArray⟩) (d := 0)).trans ?_
      unfold strsOf partsL; rw [List.map_map]; rfl
    rw [eo]
    have hp := parts_le (m := resN n) hb
    have hpl : (partsL (resN n) b).length ≤ 2 := by unfold partsL; rw [List.length_map]; exact hrl
    have es : (Str.ofString "").length = 0 := by rw [s_emp]; rfl
    refine ⟨_, _, rfl, strsD_of _, by rw [es]; omega, by rw [List.length_map]; omega, by (first | decide | (simp; done) | rfl), hN _ ?_⟩
    rw [s_emp, join_nil]
    have eb : (partsL (resN n) b).flatten = bodyL (resN n) b := rfl
    rw [eb]
    clear hN hR hB K1
    refine stp fun K1 hN hR hB => ?_
    (try dsimp only [wpS, wpE, wpEs, List.getElem?_cons_succ, List.getElem?_cons_zero, newL, R.b6, R.td3, R.td2, R.b4, R.b5, R.sb1, R.b7, List.length_cons, List.length_nil])
    have hbo := body_len (m := resN n) hb
    have hll := lead_len hm hb
    rw [str_app, str_app, res_ord, res_end, s_sp, rep_str, s_xt]
    simp only [str_len, List.length_replicate]
    refine ⟨by rw [sizeLine_eq]; omega, by rw [sizeLine_eq]; omega, by (first | decide | (simp; done) | rfl), by (first | decide | (simp; done) | rfl), div_small (by (first | decide | (simp; done) | rfl)) (by (first | decide | (simp; done) | rfl)), by (first | decide | (simp; done) | rfl), _, head_idx, by (first | decide | (simp; done) | rfl), by (first | decide | (simp; done) | rfl), div_small (by (first | decide | (simp; done) | rfl)) (by (first | decide | (simp; done) | rfl)), by (first | decide | (simp; done) | rfl), by show (resN n / 4 % 4) * 1 ≤ 1000; omega, ⟨by omega, by omega⟩, ?_⟩
    (try dsimp only [R.b6])
    rw [str_app]
    (try simp only [str_len])
    have eL : headL (resN n) b ++ List.replicate (resN n / 4 % 4) 32 = leadL (resN n) b := rfl
    rw [eL]
    have hhl : (headL (resN n) b).length ≤ 12 := by rw [← eL, List.length_append] at hll; omega
    refine ⟨by rw [List.length_replicate, sizeLine_eq]; omega, ?_⟩
    (try dsimp only [List.length_cons, List.length_nil])
    rw [str_app]
    (try simp only [str_len])
    exact ⟨by rw [sizeLine_eq]; show _ + 2 ≤ _; omega, hR _ _ hK⟩
end

set_option maxRecDepth 100000
set_option maxHeartbeats 4000000

section
variable {w : World} {s0 : Shared} {r : Nat} {σ : List MObj}
/-- the rows of some leads -/
noncomputable def rowsD (ms : List Nat) (b : Nat) : List D := strsOf (ms.map fun m => tail2 (leadL m b))
noncomputable def leadD (m b : Nat) : D := .ws (wsD (tail2 (leadL m b)))
theorem leadV {m b : Nat} : V.d (leadD m b) = wsV (.str ⟨(tail2 (leadL m b)).toArray⟩) (wsOf (tail2 (leadL m b))) := rfl
theorem rows_len {ms : List Nat} {b : Nat} : (rowsD ms b).length = ms.length := by simp [rowsD, strsOf]
theorem rows_at {ms : List Nat} {b j : Nat} {x : V} (h : ((rowsD ms b).map V.d)[j]? = some x) : j < ms.length ∧ x = sv (tail2 (leadL (ms.getD j 0) b)) := by
  have hj : j < ms.length := by have := (List.getElem?_eq_some_iff.mp h).1; rw [List.length_map, rows_len] at this; exact this
  refine ⟨hj, ?_⟩
  unfold rowsD strsOf at h
  rw [List.getElem?_map, List.getElem?_map, List.getElem?_map, List.getElem?_eq_getElem hj] at h
  rw [List.getD_eq_getElem?_getD, List.getElem?_eq_getElem hj]
  simpa [sv] using h.symm
theorem getD_mem {ms : List Nat} {j : Nat} (hj : j < ms.length) : ms.getD j 0 ∈ ms := by
  rw [List.getD_eq_getElem?_getD, List.getElem?_eq_getElem hj]; exact List.getElem_mem hj
theorem row_len {m b : Nat} (hm : m < 64) (hb : b < 4) : (tail2 (leadL m b)).length ≤ 14 := by
  have := lead_len hm hb
  unfold tail2; rw [List.length_append]; show _ + 2 ≤ _; omega
theorem ws_le {l : List Nat} : (wsOf l).c.length ≤ l.length ∧ (wsOf l).b ≤ l.length := by
  have h := ws_bound (l.takeWhile isB)
  have h2 : (l.takeWhile isB).length ≤ l.length := (List.takeWhile_sublist isB).length_le
  unfold wsOf
  exact ⟨Nat.le_trans h.2.1 h2, Nat.le_trans h.1 h2⟩
/-- less, of two texts' Whitespaces -/
theorem tc_lessL (O : Ok (cx w s0)) {l l' : List Nat} (hl : l.length ≤ 800) (hl' : l'.length ≤ 800) {k : V → List MObj → Prop} (hk : k (.d (.bool (lessW (wsOf l) (wsOf l')))) σ) : TCc (cx w s0) (r + 2) 90 [.d (.ws (wsD l)), .d (.ws (wsD l'))] none σ k := by
  have h1 := @ws_le l
  have h2 := @ws_le l'
  exact tc_less O (raw := .str ⟨l.toArray⟩) (raw' := .str ⟨l'.toArray⟩) (by omega) (by omega) (by omega) (by omega) hk

theorem rows_flat {ns : List Nat} {b : Nat} (hb : b < 4) (h : ∀ m ∈ ns, m < 64) : (rowsD ns b).all flatD = true := strs_flat fun l hl => by
  obtain ⟨m, hm, rfl⟩ := List.mem_map.mp hl
  exact lead_lay (h m hm) hb
theorem tc_bars (O : Ok (cx w s0)) {ms : List Nat} {m' b : Nat} {told : Bool} (hms : ∀ m ∈ ms, m < 64) (hm' : m' < 64) (hb : b < 4) (hlen : ms.length ≤ 100) (hS : Shut σ) {k : V → List MObj → Prop} (hK : k (.d (.bool (ms.any fun m => relN m m' == told))) σ) :
    TCc (cx w s0) (r + 3) 276 [.d (.list (rowsD ms b)), .d (leadD m' b), .d (.bool told)] none σ k := by
  refine TC_def (std3 O nm_bars) (def_bars O.In) (bind_bars rfl) rfl (fun i hi => hi) ?_
  unfold bd_bars leadD
  refine stp fun K1 hN hR hB => ?_
  (try dsimp only [loc0, List.replicate, List.set, wpS, wpE, R.cm6, wpEs, R.td2, newL, List.length_nil, R.eq4])
  refine wpG_pick ?_
  (try dsimp only [wpE, List.getElem?_cons_zero])
  have hl : ((rowsD ms b).map V.d).length = ms.length := by rw [List.length_map, rows_len]
  refine ⟨_, ⟨rfl, (rowsD ms b).map V.d, none, rfl, (by trivial), by rw [hl]; omega, by (first | decide | (simp; done) | rfl), fun j => relN (ms.getD j 0) m' == told, fun j => D.str ⟨(tail2 (leadL (ms.getD j 0) b)).toArray⟩, fun j x hx K hK2 => ?_, fun j x hx K hK2 => ?_, rfl⟩, fun st' e => ?_⟩
  · obtain ⟨hj, rfl⟩ := rows_at hx
    have hm := hms _ (getD_mem hj)
    dsimp only at hK2
    generalize ms.getD j 0 = m at *
    have hr := row_len hm hb
    have hr' := row_len hm' hb
    (try dsimp only [List.set, wpB, wpE, wpEs, List.getElem?_cons_succ, List.getElem?_cons_zero, g_0, Option.map, R.cm5, R.tr1, m_2])
    refine (tc_ws O (l := tail2 (leadL m b)) (by omega) hS ?_).tc
    (try dsimp only [R.cl1])
    refine ⟨rfl, ?_⟩
    refine (tc_lessL O (by omega) (by omega) ?_).tc
    rw [less_lead hm hm' hb]
    (try dsimp only [R.eq2])
    exact hK2
  · obtain ⟨hj, rfl⟩ := rows_at hx
    dsimp only at hK2
    unfold sv at hK2 ⊢
    (try dsimp only [List.set, List.getElem?_cons_succ, List.getElem?_cons_zero])
    exact hK2
  · rw [e]
    have eo : ((List.range ((rowsD ms b).map V.d).length).filter fun j => relN (ms.getD j 0) m' == told).map (fun j => D.str ⟨(tail2 (leadL (ms.getD j 0) b)).toArray⟩) = rowsD (ms.filter fun m => relN m m' == told) b := by
      rw [hl]
      unfold rowsD strsOf
      rw [List.map_map]
      have h := range_getD (g := id) (d := 0) (c := ms)
      rw [List.map_id] at h
      conv => rhs; rw [← h]
      rw [List.filter_map, List.map_map]
      rfl
    rw [eo]
    have hf : (rowsD (ms.filter fun m => relN m m' == told) b).all flatD = true := rows_flat hb fun m hm => hms m (List.mem_filter.mp hm).1
    skip
    refine ⟨by (first | decide | (simp; done) | rfl), flat_data hf, rfl, flat_shaped hf, rfl, hR _ _ ?_⟩
    rw [eqv_nil]
    have ee : (!(rowsD (ms.filter fun m => relN m m' == told) b).isEmpty) = ms.any fun m => relN m m' == told := by
      rw [Bool.eq_iff_iff, List.any_eq_true]
      cases hq : ms.filter fun m => relN m m' == told with
      | nil =>
        refine ⟨fun h => (by cases h), fun ⟨x, hx, hp⟩ => ?_⟩
        have : x ∈ ms.filter fun m => relN m m' == told := List.mem_filter.mpr ⟨hx, hp⟩
        rw [hq] at this; cases this
      | cons x l =>
        refine ⟨fun _ => ⟨x, ?_⟩, fun _ => rfl⟩
        have : x ∈ ms.filter fun m => relN m m' == told := by rw [hq]; exact List.mem_cons_self ..
        exact List.mem_filter.mp this
    rw [ee]; exact hK
end

set_option maxRecDepth 100000
set_option maxHeartbeats 4000000

section
variable {w : World} {s0 : Shared} {r : Nat} {σ : List MObj}
/-- a table's entries: items with their places -/
noncomputable def keyC (j p : Nat) : Nat := [112, 80, 113, 81, 114, 82, 115, 83].getD (2 * p + j % 2) 0
noncomputable def lowK (p : Nat) : Nat := [112, 113, 114, 115].getD p 0
noncomputable def upK (p : Nat) : Nat := [80, 81, 82, 83].getD p 0
noncomputable def entA (b : Nat) (A : Pl) (n : Nat) : List (List Nat × List Nat) := (List.range n).map fun j => ([keyC j (A.getD j (0, 0)).1], tail2 (leadL (A.getD j (0, 0)).2 b))
theorem key_low {j p : Nat} (hp : p < 4) : low (keyC j p) = lowK p := by
  unfold keyC
  have h2 := Nat.mod_two_eq_zero_or_one j
  have : p = 0 ∨ p = 1 ∨ p = 2 ∨ p = 3 := by omega
  rcases this with rfl | rfl | rfl | rfl <;> rcases h2 with h | h <;> rw [h] <;> rfl
theorem lowK_inj {p p' : Nat} (hp : p < 4) (hp' : p' < 4) (h : lowK p = lowK p') : p = p' := by
  have a : p = 0 ∨ p = 1 ∨ p = 2 ∨ p = 3 := by omega
  have b : p' = 0 ∨ p' = 1 ∨ p' = 2 ∨ p' = 3 := by omega
  rcases a with rfl | rfl | rfl | rfl <;> rcases b with rfl | rfl | rfl | rfl <;> first | rfl | cases h
theorem ent_len {b n : Nat} {A : Pl} : (entA b A n).length = n := by simp [entA]
theorem get_ent {b : Nat} {A : Pl} (hA : ∀ e ∈ A, e.1 < 4) {p : Nat} (hp : p < 4) : getT (entA b A A.length) [lowK p] = (atP A p).map fun m => tail2 (leadL m b) := by
  have h : ∀ n, n ≤ A.length → getT (entA b A n) [lowK p] = (atP (A.take n) p).map fun m => tail2 (leadL m b) := by
    intro n
    induction n with
    | zero => intro _; rfl
    | succ n ih =>
      intro hn
      have ih := ih (by omega)
      have e1 : entA b A (n + 1) = entA b A n ++ [([keyC n (A.getD n (0, 0)).1], tail2 (leadL (A.getD n (0, 0)).2 b))] := by unfold entA; rw [List.range_succ, List.map_append]; rfl
      have hg : A.getD n (0, 0) = A[n] := by rw [List.getD_eq_getElem?_getD, List.getElem?_eq_getElem (by omega)]; rfl
      have e2 : A.take (n + 1) = A.take n ++ [A[n]] := by rw [List.take_add_one, List.getElem?_eq_getElem (by omega)]; rfl
      rw [e1, getT_app, ih, e2, hg]
      have h4 := hA A[n] (List.getElem_mem (by omega))
      unfold atP
      rw [List.filter_append, List.map_append, List.map_append]
      congr 1
      unfold getT
      have hk : lowL [keyC n A[n].1] = [lowK A[n].1] := by show [low (keyC n A[n].1)] = _; rw [key_low h4]
      by_cases hq : A[n].1 = p
      · rw [List.filter_cons, if_pos (by rw [hk, hq]; exact decide_eq_true rfl), List.filter_cons, if_pos (by rw [hq]; exact Nat.beq_refl p)]; rfl
      · rw [List.filter_cons, if_neg (by rw [hk]; intro h; exact hq (lowK_inj h4 hp (List.cons.inj (of_decide_eq_true h)).1)), List.filter_cons, if_neg (fun h => hq (Nat.eq_of_beq_eq_true h))]; rfl
  have := h A.length (Nat.le_refl _)
  rwa [List.take_length] at this
theorem lowL_low {p : Nat} (hp : p < 4) : lowL [lowK p] = [lowK p] := by
  have a : p = 0 ∨ p = 1 ∨ p = 2 ∨ p = 3 := by omega
  rcases a with rfl | rfl | rfl | rfl <;> rfl
theorem lowL_up {p : Nat} (hp : p < 4) : lowL [upK p] = [lowK p] := by
  have a : p = 0 ∨ p = 1 ∨ p = 2 ∨ p = 3 := by omega
  rcases a with rfl | rfl | rfl | rfl <;> rfl
theorem key_fine {j p : Nat} (hp : p < 4) : shown ⟨[keyC j p].toArray⟩ = true ∧ tame ⟨[keyC j p].toArray⟩ = true := by
  unfold keyC
  have h2 := Nat.mod_two_eq_zero_or_one j
  have : p = 0 ∨ p = 1 ∨ p = 2 ∨ p = 3 := by omega
  rcases this with rfl | rfl | rfl | rfl <;> rcases h2 with h | h <;> rw [h] <;> exact ⟨by decide +kernel, by decide +kernel⟩
theorem name_fine {p : Nat} (hp : p < 4) : shown ⟨[lowK p].toArray⟩ = true ∧ tame ⟨[lowK p].toArray⟩ = true ∧ tame ⟨[upK p].toArray⟩ = true := by
  have : p = 0 ∨ p = 1 ∨ p = 2 ∨ p = 3 := by omega
  rcases this with rfl | rfl | rfl | rfl <;> exact ⟨by decide +kernel, by decide +kernel, by decide +kernel⟩
theorem s_pq : Str.ofString "pqrs" = ⟨#[112, 113, 114, 115]⟩ := by decide +kernel
theorem s_PQ : Str.ofString "PQRS" = ⟨#[80, 81, 82, 83]⟩ := by decide +kernel
theorem s_pP : Str.ofString "pPqQrRsS" = ⟨#[112, 80, 113, 81, 114, 82, 115, 83]⟩ := by decide +kernel
theorem at_pq {p : Nat} (hp : p < 4) : atIdx (⟨#[112, 113, 114, 115]⟩ : Str).cps.toList ((p : Nat) : Int) = some (lowK p) := by
  rw [at_nat]
  have : p = 0 ∨ p = 1 ∨ p = 2 ∨ p = 3 := by omega
  rcases this with rfl | rfl | rfl | rfl <;> rfl
theorem at_PQ {p : Nat} (hp : p < 4) : atIdx (⟨#[80, 81, 82, 83]⟩ : Str).cps.toList ((p : Nat) : Int) = some (upK p) := by
  rw [at_nat]
  have : p = 0 ∨ p = 1 ∨ p = 2 ∨ p = 3 := by omega
  rcases this with rfl | rfl | rfl | rfl <;> rfl
theorem at_pP {j p : Nat} (hp : p < 4) : atIdx (⟨#[112, 80, 113, 81, 114, 82, 115, 83]⟩ : Str).cps.toList ((2 * p + j % 2 : Nat) : Int) = some (keyC j p) := by
  rw [at_nat]
  unfold keyC
  have h2 := Nat.mod_two_eq_zero_or_one j
  have : p = 0 ∨ p = 1 ∨ p = 2 ∨ p = 3 := by omega
  rcases this with rfl | rfl | rfl | rfl <;> rcases h2 with h | h <;> rw [h] <;> rfl
/-- get_all, of a table of items -/
theorem tc_getA (O : Ok (cx w s0)) {A : Pl} {b p : Nat} (up : Bool) (hb : b < 4) (hA : ∀ e ∈ A, e.1 < 4 ∧ e.2 < 64) (hl : A.length ≤ 4) (hp : p < 4) {k : V → List MObj → Prop} (hK : k (.d (.list (rowsD (atP A p) b))) (hdσ σ (entA b A A.length))) :
    TCc (cx w s0) (r + 2) 201 [.inst σ.length, sv [cond up (upK p) (lowK p)]] none (hdσ σ (entA b A A.length)) k := by
  obtain ⟨n1, n2, n3⟩ := name_fine hp
  have ek : ∀ up : Bool, lowL [cond up (upK p) (lowK p)] = [lowK p] := fun up => by cases up; exact lowL_low hp; exact lowL_up hp
  have et : ∀ up : Bool, tame ⟨[cond up (upK p) (lowK p)].toArray⟩ = true := fun up => by cases up; exact n2; exact n3
  refine tc_get O (nl := [cond up (upK p) (lowK p)]) (by show (1 : Nat) ≤ 1000; omega) (et up) (by rw [ek]; exact n1) (by rw [ent_len]; omega) (fun kv hkv => ?_) ?_
  · obtain ⟨j, hj, rfl⟩ := List.mem_map.mp hkv
    rw [List.mem_range] at hj
    have hg : A.getD j (0, 0) = A[j] := by rw [List.getD_eq_getElem?_getD, List.getElem?_eq_getElem hj]; rfl
    rw [hg]
    exact ⟨by show (1 : Nat) ≤ 1000; omega, (key_fine (hA _ (List.getElem_mem hj)).1).2⟩
  · rw [ek, get_ent (fun e he => (hA e he).1) hp]
    have : strsOf ((atP A p).map fun m => tail2 (leadL m b)) = rowsD (atP A p) b := rfl
    rw [this]; exact hK
end

set_option maxRecDepth 100000
set_option maxHeartbeats 4000000

section
variable {w : World} {s0 : Shared} {r : Nat} {σ : List MObj}
theorem cut_last {α : Type} {l : List α} : cutOf l (some (-1)) none = lastL l := by
  unfold cutOf lastL
  have h : clipAt l.length (-1) = l.length - 1 := by
    rcases Nat.eq_zero_or_pos l.length with h | h
    · rw [h]; rfl
    · exact clip_neg (j := 1) (by omega) h
  simp only [Option.elim, h]
  exact List.take_of_length_le (by rw [List.length_drop]; exact Nat.le_refl _)
theorem rows_last {ns : List Nat} {b : Nat} : lastL (rowsD ns b) = rowsD (lastL ns) b := by
  unfold lastL rowsD strsOf
  rw [List.length_map, List.length_map, List.map_drop, List.map_drop]
theorem rows_get {ms : List Nat} {b j : Nat} (hj : j < ms.length) : (rowsD ms b)[j]? = some (.str ⟨(tail2 (leadL (ms.getD j 0) b)).toArray⟩) := by
  unfold rowsD strsOf
  rw [List.getElem?_map, List.getElem?_map, List.getElem?_eq_getElem hj, List.getD_eq_getElem?_getD, List.getElem?_eq_getElem hj]; rfl
theorem last_mem {α : Type} {l : List α} {x : α} (h : x ∈ lastL l) : x ∈ l := List.mem_of_mem_drop h
theorem lead_tame {m b : Nat} (hm : m < 64) (hb : b < 4) : ∀ x ∈ tail2 (leadL m b), tameC x = true := tail_tame (lead_B hm hb)
theorem atP_mem {A : Pl} {p m : Nat} (h : ∀ e ∈ A, e.2 < 64) (hm : m ∈ atP A p) : m < 64 := by
  obtain ⟨e, he, rfl⟩ := List.mem_map.mp hm
  exact h e (List.mem_filter.mp he).1
theorem atP_len {A : Pl} {p : Nat} : (atP A p).length ≤ A.length := by
  unfold atP; rw [List.length_map]; exact List.length_filter_le _ _
theorem ent_snoc {b : Nat} {A : Pl} {e : Nat × Nat} : entA b (A ++ [e]) (A ++ [e]).length = entA b A A.length ++ [([keyC A.length e.1], tail2 (leadL e.2 b))] := by
  unfold entA
  rw [List.length_append, List.length_singleton, List.range_succ, List.map_append]
  congr 1
  · refine List.map_congr_left fun j hj => ?_
    rw [List.mem_range] at hj
    rw [List.getD_eq_getElem?_getD, List.getD_eq_getElem?_getD, List.getElem?_append_left hj]
  · simp

theorem hd_at {T : List (List Nat × List Nat)} : (hdσ σ T)[σ.length]? = some (MObj.inst 262 [5] [.lst (σ.length + 1)]) := by
  have := hd_get0 (σ := σ) (T := T) (υ := []); rwa [List.append_nil] at this
theorem two_mod {i j : Nat} : 2 * (i : Int) + (j : Int).fmod 2 = ((2 * i + j % 2 : Nat) : Int) := by
  rw [fmod_e (by omega)]; omega

theorem run_mem {bl : Pl → Nat → Nat → Bool} : ∀ {ms : List Nat}, (∀ m ∈ ms, m < 64) → ∀ e ∈ runP bl ms, e.2 < 64 := fun {ms} h => by
  have : ∀ (ms : List Nat) (A : Pl), (∀ m ∈ ms, m < 64) → (∀ e ∈ A, e.2 < 64) → ∀ e ∈ ms.foldl (stepP bl) A, e.2 < 64 := by
    intro ms
    induction ms with
    | nil => intro A _ hA; exact hA
    | cons m ms ih =>
      intro A h hA
      refine ih _ (fun x hx => h x (List.mem_cons_of_mem _ hx)) fun e he => ?_
      rcases List.mem_append.mp he with he | he
      · exact hA e he
      · rw [List.mem_singleton.mp he]; exact h m (List.mem_cons_self ..)
  exact this ms [] h (fun e he => by cases he)
theorem cols_step (O : Ok (cx w s0)) {ms : List Nat} {A : Pl} {b j : Nat} (hms : ∀ m ∈ ms, m < 64) (hb : b < 4) (hj : j < ms.length) (h4 : ms.length = 4) (hA : ∀ e ∈ A, e.1 < A.length ∧ e.2 < 64) (hl : A.length = j) (hS : Shut σ) {l3 l4 : Option V} {K : KF}
    (hK : ∀ l3 l4, K .next ⟨hdσ σ (entA b (stepP (blC relN) A (ms.getD j 0)) (stepP (blC relN) A (ms.getD j 0)).length), [some (.d (.list (rowsD ms b))), some (.inst σ.length), some (.d (.int (j : Nat))), l3, l4]⟩) :
    wpSs (cx w s0) (r + 3) lb_cols_3 ⟨hdσ σ (entA b A A.length), [some (.d (.list (rowsD ms b))), some (.inst σ.length), some (.d (.int (j : Nat))), l3, l4]⟩ K := by
  have hA1 : ∀ e ∈ A, e.1 < 4 ∧ e.2 < 64 := fun e he => ⟨by have := (hA e he).1; omega, (hA e he).2⟩
  have hm : ms.getD j 0 < 64 := hms _ (getD_mem hj)
  have hS2 : Shut (hdσ σ (entA b A A.length)) := hd_shut hS
  unfold lb_cols_3
  refine stp fun K1 hN hR hB => ?_
  (try dsimp only [wpS, wpE, wpEs, List.getElem?_cons_zero, g_0, List.getElem?_cons_succ, R.sb1, List.length_cons, List.length_nil, List.set])
  rw [at_nat, rows_get hj]
  generalize hmm : ms.getD j 0 = m at *
  refine ⟨_, rfl, by rw [rows_len]; omega, ?_⟩
  refine (tc_ws O (l := tail2 (leadL m b)) (by have := row_len hm hb; omega) hS2 ?_).tc
  refine ⟨by (first | decide | (simp; done) | rfl), hN _ ?_⟩
  clear hN hR hB K1
  refine stp fun K1 hN hR hB => ?_
  (try dsimp only [wpS, wpE, List.length_cons, List.length_nil, List.set])
  refine ⟨by (first | decide | (simp; done) | rfl), hN _ ?_⟩
  clear hN hR hB K1
  refine stp fun K1 hN hR hB => ?_
  dsimp only [wpS]
  refine ⟨A.length + 1, whK_inv (fun i st => st = ⟨hdσ σ (entA b A A.length), [some (.d (.list (rowsD ms b))), some (.inst σ.length), some (.d (.int (j : Nat))), some (.d (leadD m b)), some (.d (.int (i : Nat)))]⟩ ∧ i ≤ A.length ∧ ∀ e < i, blC relN A m (0 + e) = true)
    (fun st => ∃ i : Nat, st = ⟨hdσ σ (entA b A A.length), [some (.d (.list (rowsD ms b))), some (.inst σ.length), some (.d (.int (j : Nat))), some (.d (leadD m b)), some (.d (.int (i : Nat)))]⟩ ∧ i ≤ A.length ∧ (∀ e < i, blC relN A m (0 + e) = true) ∧ blC relN A m (0 + i) = false) (fun _ _ => False) (fun _ => False) A.length (fun i st h => h.2.1) ?_ _ 0
    ⟨rfl, Nat.zero_le _, fun e he => by omega⟩ (by omega) ?_ (fun _ _ h => h.elim) (fun _ h => h.elim)⟩
  · rintro i st K' ⟨rfl, h1, h2⟩ hF hT
    have hi4 : i < 4 := by omega
    unfold tb_cols_0
    (try dsimp only [wpB, wpE, wpEs, List.getElem?_cons_succ, List.getElem?_cons_zero, Option.map, g_11, wpO, R.un1, m_4, R.sb3, R.cl2])
    rw [hd_at, s_pq, at_pq hi4]
    refine ⟨rfl, _, rfl, by (first | decide | (simp; done) | rfl), ?_⟩
    refine (tc_getA O false hb hA1 (by omega) hi4 ?_).tc
    (try dsimp only [R.sl1in, List.getElem?_cons_succ, List.getElem?_cons_zero])
    rw [cut_last, rows_last]
    refine ⟨by rw [rows_len]; have := @atP_len A i; omega, ?_⟩
    refine (tc_bars O (ms := lastL (atP A i)) (fun m' h => atP_mem (fun e he => (hA e he).2) (last_mem h)) hm hb (by unfold lastL; rw [List.length_drop]; have := @atP_len A i; omega) hS2 ?_).tc
    (try dsimp only [R.tr1])
    have eb : ((lastL (atP A i)).any fun x => relN x m == false) = blC relN A m (0 + i) := by rw [Nat.zero_add]; rfl
    rw [eb]
    cases hbl : blC relN A m (0 + i) with
    | false => exact hF _ ⟨i, rfl, h1, h2, hbl⟩
    | true =>
      have hlt : i < A.length := by
        rcases Nat.lt_or_ge i A.length with h | h
        · exact h
        · have : blC relN A m (0 + i) = false := by unfold blC; rw [Nat.zero_add, at_none (fun e he => (hA e he).1) h]; rfl
          rw [hbl] at this; cases this
      refine hT _ fun K2 hN2 _ _ => ?_
      unfold lb_cols_1
      refine stp fun K3 hN3 hR3 hB3 => ?_
      (try dsimp only [wpS, wpE, List.getElem?_cons_succ, List.getElem?_cons_zero, R.b1, List.length_cons, List.length_nil, List.set])
      refine ⟨by (first | decide | (simp; done) | rfl), hN3 _ (stn (hN2 _ ⟨rfl, hlt, fun e he => ?_⟩))⟩
      rcases Nat.lt_or_ge e i with h | h
      · exact h2 e h
      · rw [show e = i by omega]; exact hbl
  · rintro st' ⟨i, rfl, h1, h2, h3⟩
    refine hN _ ?_
    clear hN hR hB K1
    have hi4 : i < 4 := by omega
    have hpl : placeR (blC relN A m) A.length 0 = i := by rw [place_at h2 (fun _ => h3) h1]; omega
    unfold tl_cols_2
    refine stp fun K1 hN hR hB => ?_
    (try dsimp only [wpS, wpE, List.getElem?_cons_succ, List.getElem?_cons_zero, Option.map, wpEs, m_5, R.b3, R.b5, R.b1, R.sb3, R.sb1, R.cl2])
    rw [hd_at, s_pP, two_mod, at_pP hi4, at_nat, rows_get hj, hmm]
    refine ⟨rfl, mul_small (by omega), by (first | decide | (simp; done) | rfl), _, rfl, by (first | decide | (simp; done) | rfl), _, rfl, by rw [rows_len]; omega, ?_⟩
    have hkf := key_fine (j := j) hi4
    refine (tc_add O (T := entA b A A.length) (kl := [keyC j i]) (vl := tail2 (leadL m b)) hS (by show (1 : Nat) ≤ 1000; omega) (by have := row_len hm hb; omega) hkf.1 (tame_of (lead_tame hm hb)) (by rw [ent_len]; omega) ?_).tc
    refine ⟨rfl, hN _ (stn ?_)⟩
    have e2 : entA b A A.length ++ [([keyC j i], tail2 (leadL m b))] = entA b (stepP (blC relN) A m) (stepP (blC relN) A m).length := by
      unfold stepP; rw [ent_snoc, hpl, hl]
    rw [e2]
    exact hK _ _

theorem tc_cols (O : Ok (cx w s0)) {ms : List Nat} {b : Nat} (hms : ∀ m ∈ ms, m < 64) (hb : b < 4) (h4 : ms.length = 4) (hS : Shut σ) {k : V → List MObj → Prop} (hK : k (.inst σ.length) (hdσ σ (entA b (runP (blC relN) ms) (runP (blC relN) ms).length))) :
    TCc (cx w s0) (r + 4) 283 [.d (.list (rowsD ms b))] none σ k := by
  refine TC_def (std3 O nm_cols) (def_cols O.In) (bind_cols rfl) rfl (fun i hi => hi) ?_
  unfold bd_cols
  refine stp fun K1 hN hR hB => ?_
  (try dsimp only [loc0, List.replicate, List.set, wpS, wpE, wpEs, g_9, List.length_cons, List.length_nil])
  refine (tc_hd O ?_).tc
  skip
  refine ⟨by (first | decide | (simp; done) | rfl), hN _ ?_⟩
  clear hN hR hB K1
  refine stp fun K1 hN hR hB => ?_
  (try dsimp only [wpS, wpE, wpEs, g_21, R.bi12, R.it3])
  rw [if_pos (by (first | decide | (simp; done) | rfl))]
  dsimp only
  refine forK_inv (fun j st => j ≤ 4 ∧ ∃ l2 l3 l4, st = ⟨hdσ σ (entA b (runP (blC relN) (ms.take j)) (runP (blC relN) (ms.take j)).length), [some (.d (.list (rowsD ms b))), some (.inst σ.length), l2, l3, l4]⟩) (fun _ _ => False) (fun _ => False) (fun _ _ _ => (by trivial)) ?_ ⟨by omega, none, none, none, rfl⟩ ?_ (fun _ _ h => h.elim) (fun _ h => h.elim)
  · rintro j x st K2 ⟨hj4, l2, l3, l4, rfl⟩ hx hN2 _ _
    obtain ⟨hj, rfl⟩ := rng_get hx
    rw [Int.zero_add] at hj ⊢
    have hj : j < ms.length := by omega
    have hlen : (runP (blC relN) (ms.take j)).length = j := by unfold runP; rw [run_len, List.length_take]; show 0 + _ = _; omega
    have hA : ∀ e ∈ runP (blC relN) (ms.take j), e.1 < (runP (blC relN) (ms.take j)).length ∧ e.2 < 64 := fun e he => ⟨run_le (A := []) (fun _ h => by cases h) e he, run_mem (fun m hm => hms m (List.mem_of_mem_take hm)) e he⟩
    simp only [bindT, List.length_cons, List.length_nil]
    refine ⟨by omega, ?_⟩
    refine cols_step O hms hb hj h4 hA hlen hS fun l3 l4 => hN2 _ ⟨by omega, some (.d (.int (j : Nat))), l3, l4, ?_⟩
    have e1 : ms.take (j + 1) = ms.take j ++ [ms.getD j 0] := by
      rw [List.take_add_one, List.getElem?_eq_getElem hj, List.getD_eq_getElem?_getD, List.getElem?_eq_getElem hj]; rfl
    rw [e1, runP_snoc]
  · rintro st' ⟨_, l2, l3, l4, rfl⟩
    rw [rng_len]
    refine hN _ ?_
    unfold tl_cols_4
    refine stp fun K3 hN3 hR3 hB3 => ?_
    (try dsimp only [wpS, wpE, List.getElem?_cons_succ, List.getElem?_cons_zero])
    refine hR3 _ _ ?_
    have e : ms.take ((4 : Int) - 0).toNat = ms := List.take_of_length_le (by rw [h4]; decide)
    rw [e]; exact hK
end

set_option maxRecDepth 100000
set_option maxHeartbeats 4000000

section
variable {w : World} {s0 : Shared} {r : Nat} {σ : List MObj}
theorem lays_step (O : Ok (cx w s0)) {ms : List Nat} {A : Pl} {b j : Nat} (hms : ∀ m ∈ ms, m < 64) (hb : b < 4) (hj : j < ms.length) (h4 : ms.length = 4) (hA : ∀ e ∈ A, e.1 < A.length ∧ e.2 < 64) (hl : A.length = j) (hS : Shut σ) {l3 l4 : Option V} {K : KF}
    (hK : ∀ l3 l4, K .next ⟨hdσ σ (entA b (stepP (blL relN) A (ms.getD j 0)) (stepP (blL relN) A (ms.getD j 0)).length), [some (.d (.list (rowsD ms b))), some (.inst σ.length), some (.d (.int (j : Nat))), l3, l4]⟩) :
    wpSs (cx w s0) (r + 3) lb_lays_3 ⟨hdσ σ (entA b A A.length), [some (.d (.list (rowsD ms b))), some (.inst σ.length), some (.d (.int (j : Nat))), l3, l4]⟩ K := by
  have hA1 : ∀ e ∈ A, e.1 < 4 ∧ e.2 < 64 := fun e he => ⟨by have := (hA e he).1; omega, (hA e he).2⟩
  have hm : ms.getD j 0 < 64 := hms _ (getD_mem hj)
  have hS2 : Shut (hdσ σ (entA b A A.length)) := hd_shut hS
  unfold lb_lays_3
  refine stp fun K1 hN hR hB => ?_
  (try dsimp only [wpS, wpE, wpEs, List.getElem?_cons_zero, g_0, List.getElem?_cons_succ, R.sb1, List.length_cons, List.length_nil, List.set])
  rw [at_nat, rows_get hj]
  generalize hmm : ms.getD j 0 = m at *
  refine ⟨_, rfl, by rw [rows_len]; omega, ?_⟩
  refine (tc_ws O (l := tail2 (leadL m b)) (by have := row_len hm hb; omega) hS2 ?_).tc
  refine ⟨by (first | decide | (simp; done) | rfl), hN _ ?_⟩
  clear hN hR hB K1
  refine stp fun K1 hN hR hB => ?_
  (try dsimp only [wpS, wpE, List.length_cons, List.length_nil, List.set])
  refine ⟨by (first | decide | (simp; done) | rfl), hN _ ?_⟩
  clear hN hR hB K1
  refine stp fun K1 hN hR hB => ?_
  dsimp only [wpS]
  refine ⟨A.length + 1, whK_inv (fun i st => st = ⟨hdσ σ (entA b A A.length), [some (.d (.list (rowsD ms b))), some (.inst σ.length), some (.d (.int (j : Nat))), some (.d (leadD m b)), some (.d (.int (i : Nat)))]⟩ ∧ i ≤ A.length ∧ ∀ e < i, blL relN A m (0 + e) = true)
    (fun st => ∃ i : Nat, st = ⟨hdσ σ (entA b A A.length), [some (.d (.list (rowsD ms b))), some (.inst σ.length), some (.d (.int (j : Nat))), some (.d (leadD m b)), some (.d (.int (i : Nat)))]⟩ ∧ i ≤ A.length ∧ (∀ e < i, blL relN A m (0 + e) = true) ∧ blL relN A m (0 + i) = false) (fun _ _ => False) (fun _ => False) A.length (fun i st h => h.2.1) ?_ _ 0
    ⟨rfl, Nat.zero_le _, fun e he => by omega⟩ (by omega) ?_ (fun _ _ h => h.elim) (fun _ h => h.elim)⟩
  · rintro i st K' ⟨rfl, h1, h2⟩ hF hT
    have hi4 : i < 4 := by omega
    unfold tb_lays_0
    (try dsimp only [wpB, wpE, wpEs, List.getElem?_cons_succ, List.getElem?_cons_zero, Option.map, g_11, m_4, R.sb3, R.cl2])
    rw [hd_at, s_PQ, at_PQ hi4]
    refine ⟨rfl, _, rfl, by (first | decide | (simp; done) | rfl), ?_⟩
    refine (tc_getA O true hb hA1 (by omega) hi4 ?_).tc
    skip
    refine (tc_bars O (ms := atP A i) (fun m' h => atP_mem (fun e he => (hA e he).2) h) hm hb (by have := @atP_len A i; omega) hS2 ?_).tc
    (try dsimp only [R.tr1])
    have eb : ((atP A i).any fun x => relN x m == true) = blL relN A m (0 + i) := by rw [Nat.zero_add]; rfl
    rw [eb]
    cases hbl : blL relN A m (0 + i) with
    | false => exact hF _ ⟨i, rfl, h1, h2, hbl⟩
    | true =>
      have hlt : i < A.length := by
        rcases Nat.lt_or_ge i A.length with h | h
        · exact h
        · have : blL relN A m (0 + i) = false := by unfold blL; rw [Nat.zero_add, at_none (fun e he => (hA e he).1) h]; rfl
          rw [hbl] at this; cases this
      refine hT _ fun K2 hN2 _ _ => ?_
      unfold lb_lays_1
      refine stp fun K3 hN3 hR3 hB3 => ?_
      (try dsimp only [wpS, wpE, List.getElem?_cons_succ, List.getElem?_cons_zero, R.b1, List.length_cons, List.length_nil, List.set])
      refine ⟨by (first | decide | (simp; done) | rfl), hN3 _ (stn (hN2 _ ⟨rfl, hlt, fun e he => ?_⟩))⟩
      rcases Nat.lt_or_ge e i with h | h
      · exact h2 e h
      · rw [show e = i by omega]; exact hbl
  · rintro st' ⟨i, rfl, h1, h2, h3⟩
    refine hN _ ?_
    clear hN hR hB K1
    have hi4 : i < 4 := by omega
    have hpl : placeR (blL relN A m) A.length 0 = i := by rw [place_at h2 (fun _ => h3) h1]; omega
    unfold tl_lays_2
    refine stp fun K1 hN hR hB => ?_
    (try dsimp only [wpS, wpE, List.getElem?_cons_succ, List.getElem?_cons_zero, Option.map, wpEs, m_5, R.b3, R.b5, R.b1, R.sb3, R.sb1, R.cl2])
    rw [hd_at, s_pP, two_mod, at_pP hi4, at_nat, rows_get hj, hmm]
    refine ⟨rfl, mul_small (by omega), by (first | decide | (simp; done) | rfl), _, rfl, by (first | decide | (simp; done) | rfl), _, rfl, by rw [rows_len]; omega, ?_⟩
    have hkf := key_fine (j := j) hi4
    refine (tc_add O (T := entA b A A.length) (kl := [keyC j i]) (vl := tail2 (leadL m b)) hS (by show (1 : Nat) ≤ 1000; omega) (by have := row_len hm hb; omega) hkf.1 (tame_of (lead_tame hm hb)) (by rw [ent_len]; omega) ?_).tc
    refine ⟨rfl, hN _ (stn ?_)⟩
    have e2 : entA b A A.length ++ [([keyC j i], tail2 (leadL m b))] = entA b (stepP (blL relN) A m) (stepP (blL relN) A m).length := by
      unfold stepP; rw [ent_snoc, hpl, hl]
    rw [e2]
    exact hK _ _

theorem tc_lays (O : Ok (cx w s0)) {ms : List Nat} {b : Nat} (hms : ∀ m ∈ ms, m < 64) (hb : b < 4) (h4 : ms.length = 4) (hS : Shut σ) {k : V → List MObj → Prop} (hK : k (.inst σ.length) (hdσ σ (entA b (runP (blL relN) ms) (runP (blL relN) ms).length))) :
    TCc (cx w s0) (r + 4) 290 [.d (.list (rowsD ms b))] none σ k := by
  refine TC_def (std3 O nm_lays) (def_lays O.In) (bind_lays rfl) rfl (fun i hi => hi) ?_
  unfold bd_lays
  refine stp fun K1 hN hR hB => ?_
  (try dsimp only [loc0, List.replicate, List.set, wpS, wpE, wpEs, g_9, List.length_cons, List.length_nil])
  refine (tc_hd O ?_).tc
  skip
  refine ⟨by (first | decide | (simp; done) | rfl), hN _ ?_⟩
  clear hN hR hB K1
  refine stp fun K1 hN hR hB => ?_
  (try dsimp only [wpS, wpE, wpEs, g_21, R.bi12, R.it3])
  rw [if_pos (by (first | decide | (simp; done) | rfl))]
  dsimp only
  refine forK_inv (fun j st => j ≤ 4 ∧ ∃ l2 l3 l4, st = ⟨hdσ σ (entA b (runP (blL relN) (ms.take j)) (runP (blL relN) (ms.take j)).length), [some (.d (.list (rowsD ms b))), some (.inst σ.length), l2, l3, l4]⟩) (fun _ _ => False) (fun _ => False) (fun _ _ _ => (by trivial)) ?_ ⟨by omega, none, none, none, rfl⟩ ?_ (fun _ _ h => h.elim) (fun _ h => h.elim)
  · rintro j x st K2 ⟨hj4, l2, l3, l4, rfl⟩ hx hN2 _ _
    obtain ⟨hj, rfl⟩ := rng_get hx
    rw [Int.zero_add] at hj ⊢
    have hj : j < ms.length := by omega
    have hlen : (runP (blL relN) (ms.take j)).length = j := by unfold runP; rw [run_len, List.length_take]; show 0 + _ = _; omega
    have hA : ∀ e ∈ runP (blL relN) (ms.take j), e.1 < (runP (blL relN) (ms.take j)).length ∧ e.2 < 64 := fun e he => ⟨run_le (A := []) (fun _ h => by cases h) e he, run_mem (fun m hm => hms m (List.mem_of_mem_take hm)) e he⟩
    simp only [bindT, List.length_cons, List.length_nil]
    refine ⟨by omega, ?_⟩
    refine lays_step O hms hb hj h4 hA hlen hS fun l3 l4 => hN2 _ ⟨by omega, some (.d (.int (j : Nat))), l3, l4, ?_⟩
    have e1 : ms.take (j + 1) = ms.take j ++ [ms.getD j 0] := by
      rw [List.take_add_one, List.getElem?_eq_getElem hj, List.getD_eq_getElem?_getD, List.getElem?_eq_getElem hj]; rfl
    rw [e1, runP_snoc]
  · rintro st' ⟨_, l2, l3, l4, rfl⟩
    rw [rng_len]
    refine hN _ ?_
    unfold tl_lays_4
    refine stp fun K3 hN3 hR3 hB3 => ?_
    (try dsimp only [wpS, wpE, List.getElem?_cons_succ, List.getElem?_cons_zero])
    refine hR3 _ _ ?_
    have e : ms.take ((4 : Int) - 0).toNat = ms := List.take_of_length_le (by rw [h4]; decide)
    rw [e]; exact hK

theorem names_at {j : Nat} {x : V} (h : ([112, 113, 114, 115].map fun ch => V.d (.str ⟨#[ch]⟩))[j]? = some x) : j < 4 ∧ x = .d (.str ⟨#[lowK j]⟩) := by
  match j, h with
  | 0, h => cases h; exact ⟨by omega, rfl⟩
  | 1, h => cases h; exact ⟨by omega, rfl⟩
  | 2, h => cases h; exact ⟨by omega, rfl⟩
  | 3, h => cases h; exact ⟨by omega, rfl⟩
  | j + 4, h => simp at h
/-- how many names have rows -/
theorem tc_names (O : Ok (cx w s0)) {A : Pl} {b : Nat} (hA : ∀ e ∈ A, e.1 < 4 ∧ e.2 < 64) (hl : A.length ≤ 4) (hb : b < 4) (hS : Shut σ) {k : V → List MObj → Prop} (hK : k (.d (.int (namesP A : Nat))) (hdσ σ (entA b A A.length))) :
    TCc (cx w s0) (r + 3) 295 [.inst σ.length] none (hdσ σ (entA b A A.length)) k := by
  refine TC_def (std3 O nm_names) (def_names O.In) (bind_names rfl) rfl (fun i hi => hi) ?_
  unfold bd_names
  refine stp fun K1 hN hR hB => ?_
  (try dsimp only [loc0, List.replicate, List.set, wpS, wpE, wpEs, g_16, R.bi2])
  refine wpG_pick ?_
  (try dsimp only [wpE])
  rw [s_pq]
  refine ⟨_, ⟨rfl, [112, 113, 114, 115].map fun ch => .d (.str ⟨#[ch]⟩), none, rfl, (by trivial), by show 4 < _; omega, by (first | decide | (simp; done) | rfl), fun j => !(atP A j).isEmpty, fun j => D.str ⟨#[lowK j]⟩, fun j x hx K hK2 => ?_, fun j x hx K hK2 => ?_, rfl⟩, fun st' e => ?_⟩
  · obtain ⟨hj, rfl⟩ := names_at hx
    dsimp only at hK2
    (try dsimp only [List.set, wpB, wpE, List.getElem?_cons_zero, Option.map, R.cm6, R.tr1, wpEs, R.td2, newL, List.length_nil, m_4, List.getElem?_cons_succ, R.cl2])
    rw [hd_at]
    refine ⟨rfl, ?_⟩
    refine (tc_getA O false hb hA hl hj ?_).tc
    (try dsimp only [R.eq4])
    refine ⟨by (first | decide | (simp; done) | rfl), flat_data (rows_flat hb fun m h => atP_mem (fun e he => (hA e he).2) h), rfl, flat_shaped (rows_flat hb fun m h => atP_mem (fun e he => (hA e he).2) h), rfl, ?_⟩
    rw [eqv_nil]
    have e : (rowsD (atP A j) b).isEmpty = (atP A j).isEmpty := by unfold rowsD strsOf; rw [List.isEmpty_map, List.isEmpty_map]
    rw [e]
    skip
    exact hK2
  · obtain ⟨hj, rfl⟩ := names_at hx
    dsimp only at hK2
    (try dsimp only [List.set, List.getElem?_cons_succ, List.getElem?_cons_zero])
    exact hK2
  · rw [e, List.length_map]
    have en : ((List.range ([112, 113, 114, 115].map fun ch => V.d (.str ⟨#[ch]⟩)).length).filter fun j => !(atP A j).isEmpty).length = namesP A := rfl
    rw [en]
    refine ⟨?_, hR _ _ hK⟩
    have : namesP A ≤ 4 := List.length_filter_le _ [0, 1, 2, 3]
    omega

theorem two_items {a b : Nat} {j : Nat} {x : V} (h : ([D.int (a : Nat), D.int (b : Nat)].map V.d)[j]? = some x) : j < 2 ∧ x = .d (.int ([a, b].getD j 0 : Nat)) := by
  match j, h with
  | 0, h => cases h; exact ⟨by omega, rfl⟩
  | 1, h => cases h; exact ⟨by omega, rfl⟩
  | j + 2, h => simp at h
theorem tc_met (O : Ok (cx w s0)) {m b q run : Nat} (hm : m < 64) (hb : b < 4) (hq : q < 4) (hrun : run = q + 2) (hS : Shut σ) {k : V → List MObj → Prop} (hK : k (.d (.list [.bool false, .bool true])) σ) :
    TCc (cx w s0) (r + 3) 300 [sv (tail2 (leadL m b)), .d (.int (run : Nat))] none σ k := by
  have hll := lead_len hm hb
  have hrl := row_len hm hb
  refine TC_def (std3 O nm_met) (def_met O.In) (bind_met rfl) rfl (fun i hi => hi) ?_
  unfold bd_met sv
  refine stp fun K1 hN hR hB => ?_
  (try dsimp only [loc0, List.replicate, List.set, wpS, wpE, wpEs, List.getElem?_cons_succ, List.getElem?_cons_zero, g_0, R.b7, R.b6, List.length_cons, List.length_nil])
  rw [s_sp, s_tab, rep_str, str_app (b := [9])]
  refine ⟨by show run * 1 ≤ 1000; omega, ⟨by omega, by omega⟩, by show (List.replicate run 32).length + 1 ≤ _; rw [List.length_replicate, sizeLine_eq]; omega, ?_⟩
  skip
  rw [str_app]
  have ef : List.replicate run 32 ++ [9] ++ tail2 (leadL m b) = farL m b run := by unfold farL; simp
  have hfl : (farL m b run).length ≤ 30 := by rw [← ef]; simp; omega
  rw [ef]
  refine ⟨by show (List.replicate run 32 ++ [9]).length + (tail2 (leadL m b)).length ≤ _; simp; rw [sizeLine_eq]; omega, ?_⟩
  refine (tc_ws O (l := farL m b run) (by omega) hS ?_).tc
  refine ⟨by (first | decide | (simp; done) | rfl), hN _ ?_⟩
  clear hN hR hB K1
  refine stp fun K1 hN hR hB => ?_
  (try dsimp only [wpS, wpE, Option.map, wpEs, g_0, wpO, R.un1, m_2])
  refine wpG_map ?_
  (try dsimp only [wpE, wpEs, List.getElem?_cons_succ, List.getElem?_cons_zero, newL, R.b1, R.td3, R.td2, List.length_cons, List.length_nil])
  rw [show (run : Int) + 1 = ((run + 1 : Nat) : Int) from rfl]
  refine ⟨by (first | decide | (simp; done) | rfl), _, ⟨rfl, [D.int (run : Nat), D.int (run + 1 : Nat)].map V.d, none, rfl, (by trivial), by show 2 < _; omega, by (first | decide | (simp; done) | rfl), fun j => D.bool (Nat.beq j 1), fun j x hx K hK2 => ?_, rfl⟩, fun st' e => ?_⟩
  · obtain ⟨hj, rfl⟩ := two_items hx
    have hmore : [run, run + 1].getD j 0 = run + j := by
      have : j = 0 ∨ j = 1 := by omega
      rcases this with rfl | rfl <;> rfl
    rw [hmore] at hK2 ⊢
    dsimp only at hK2
    have hln := @less_met m b q j hm hb hq hj
    rw [← hrun] at hln
    generalize hmo : run + j = more at *
    (try dsimp only [List.set, List.getElem?_cons_succ, List.getElem?_cons_zero, R.b2, R.b7, R.b6, R.sl3ni, R.cl1])
    rw [show (run : Int) - 1 = ((run - 1 : Nat) : Int) by omega, s_sp, s_tab, rep_str, str_app (b := [9]), rep_str]
    refine ⟨rfl, by show (run - 1) * 1 ≤ 1000; omega, ⟨by omega, by omega⟩, by show (List.replicate (run - 1) 32).length + 1 ≤ _; rw [List.length_replicate, sizeLine_eq]; omega, ?_⟩
    skip
    have ec : cutOf (tail2 (leadL m b)) none (some (-2)) = leadL m b := by
      have := cut_back (l := tail2 (leadL m b)) (j := 2) (by omega) (by unfold tail2; rw [List.length_append]; show 2 ≤ _ + 2; omega)
      refine this.trans ?_
      unfold tail2
      rw [List.length_append]
      exact List.take_left' (by show _ = _ + 2 - 2; omega)
    rw [ec, str_app]
    refine ⟨by show (tail2 (leadL m b)).length < _; omega, by show (List.replicate (run - 1) 32 ++ [9]).length + (leadL m b).length ≤ _; simp; rw [sizeLine_eq]; omega, by show more * 1 ≤ 1000; omega, ⟨by omega, by omega⟩, ?_⟩
    skip
    rw [str_app]
    have en : List.replicate (run - 1) 32 ++ [9] ++ leadL m b ++ List.replicate more 32 = nearL m b run more := by unfold nearL; simp
    have hnl : (nearL m b run more).length ≤ 40 := by rw [← en]; simp; omega
    rw [en]
    refine ⟨by show (List.replicate (run - 1) 32 ++ [9] ++ leadL m b).length + (List.replicate more 32).length ≤ _; simp; rw [sizeLine_eq]; omega, ?_⟩
    refine (tc_ws O (l := nearL m b run more) (by omega) hS ?_).tc
    refine (tc_lessL O (by omega) (by omega) ?_).tc
    rw [hln]
    exact hK2
  · rw [e]
    exact hR _ _ hK
end

set_option maxRecDepth 100000
set_option maxHeartbeats 4000000

section
variable {w : World} {s0 : Shared} {r : Nat} {σ : List MObj}
/-- the law's slots: thirteen names, the leads, the others -/
noncomputable def L14 (v0 v1 : Option V) (b : Nat) (μ : Nat → Nat) (p q : List Nat) (v11 v12 v13 : Option V) (t : List (Option V)) : List (Option V) :=
  [v0, v1, some (.d (.list (intsOf (bagL b)))), some (.d (.list (intsOf (r4.map fun k => tbN (μ k))))), some (.d (.list (intsOf (r4.map fun k => sgN (μ k))))), some (.d (.list (rowsD (r4.map μ) b))), some (.d (.list (intsOf p))), some (.d (.list (intsOf q))),
    some (sv (wordP p)), some (sv (thereP q)), some (sv (backP q)), v11, v12, v13] ++ t
theorem r4_at {α : Type} {f : Nat → α} {d : α} {j : Nat} (h : j < 4) : (r4.map f).getD j d = f j := by
  have : j = 0 ∨ j = 1 ∨ j = 2 ∨ j = 3 := by omega
  rcases this with rfl | rfl | rfl | rfl <;> rfl
theorem ints_get {c : List Nat} {j : Nat} (h : j < c.length) : (intsOf c)[j]? = some (.int (c.getD j 0 : Nat)) := by
  rw [intsOf, List.getElem?_map, List.getElem?_eq_getElem h, List.getD_eq_getElem?_getD, List.getElem?_eq_getElem h]; rfl
theorem rng4 {j : Nat} {x : V} (h : ((rangeL 0 4 1).map fun i => V.d (.int i))[j]? = some x) : j < 4 ∧ x = .d (.int (j : Nat)) := by
  obtain ⟨a, b⟩ := rng_get h
  rw [Int.zero_add] at a b
  exact ⟨by omega, b⟩
theorem ints_flat : ∀ {c : List Nat}, (intsOf c).all flatD = true
  | [] => rfl
  | _ :: c => by show (true && (intsOf c).all flatD) = true; rw [ints_flat]; rfl
theorem eqS_fl {st : St} {k : KB} {xs ys : List D} {j : Nat} (h : st.σ[j]? = some (.lst ys)) (a : xs.all flatD = true) (b : ys.all flatD = true) (hk : k (PyData.eqv (toPy (.list xs)) (toPy (.list ys))) st) : eqS (.d (.list xs)) (.lst j) st k := by
  show eqF _ _ _ _
  unfold eqF V.frozen
  dsimp only
  rw [h]
  exact ⟨flat_data a, flat_data b, flat_shaped a, flat_shaped b, hk⟩
theorem told_items {n : Nat} {y : V} (h : ([D.bool false, D.bool true].map V.d)[n]? = some y) : n < 2 ∧ y = .d (.bool (Nat.beq n 1)) := by
  match n, h with
  | 0, h => cases h; exact ⟨by omega, rfl⟩
  | 1, h => cases h; exact ⟨by omega, rfl⟩
  | n + 2, h => simp at h
theorem range_flat {g : Nat → Bool} {n : Nat} : ((List.range n).map fun j => D.bool (g j)).all flatD = true := by
  have : ((List.range n).map fun j => D.bool (g j)) = ((List.range n).map g).map D.bool := by rw [List.map_map]; rfl
  rw [this]; exact bools_flat
theorem bools_same {g : Nat → Bool} {n : Nat} : PyData.eqv (toPy (.list ((List.range n).map fun j => D.bool (g j)))) (toPy (.list ((List.range n).map fun j => D.bool (g j)))) = true := by
  have : ((List.range n).map fun j => D.bool (g j)) = ((List.range n).map g).map D.bool := by rw [List.map_map]; rfl
  rw [this, eqv_bools]; exact decide_eq_true rfl
theorem r4_get {j : Nat} (h : j < 4) : r4[j]? = some j := by
  have : j = 0 ∨ j = 1 ∨ j = 2 ∨ j = 3 := by omega
  rcases this with rfl | rfl | rfl | rfl <;> rfl
section
variable {v0 v1 v11 v12 v13 : Option V} {b : Nat} {μ : Nat → Nat} {p q : List Nat} {K : KF}

theorem law_0 (O : Ok (cx w s0)) (hμ : ∀ k, μ k < 64) (hb : b < 4) (hS : Shut σ) (hK : ∀ st', K (.ret (.d (.bool true))) st') :
    wpSs (cx w s0) (r + 4) tl_law_0 ⟨σ, L14 v0 v1 b μ p q v11 v12 v13 (List.replicate 22 none)⟩ K := by
  unfold tl_law_0 L14
  refine stp fun K1 hN hR hB => ?_
  (try dsimp only [List.replicate, List.cons_append, List.nil_append, wpS, wpE, R.cm5, wpEs, R.td3, R.td2, newL, R.b8, List.length_cons, List.length_nil])
  refine wpG_two (by (first | decide | (simp; done) | rfl)) (by (first | decide | (simp; done) | rfl)) (by (first | decide | (simp; done) | rfl)) ?_
  (try dsimp only [List.set, List.getElem?_cons_succ, List.getElem?_cons_zero, wpE, wpEs, g_15, g_21, R.bi12, R.it3])
  refine ⟨rfl, (rangeL 0 4 1).map fun i => V.d (.int i), rfl, by rw [rng_len]; decide, 2, fun j m => D.bool (Nat.beq m 1), by omega, fun j x hx o K2 hK2 => ?_, fun st' e => ?_⟩
  · obtain ⟨hj, rfl⟩ := rng4 hx
    (try dsimp only [R.sb1, List.getElem?_cons_succ, List.getElem?_cons_zero, R.b1])
    rw [at_nat, rows_get (show j < (r4.map μ).length from hj), r4_at hj]
    refine ⟨_, rfl, by rw [rows_len]; show 4 < _; omega, ?_⟩
    refine (tc_met O (m := μ j) (b := b) (q := j) (run := j + 2) (hμ j) hb hj rfl hS ?_).tc
    refine hK2 _ ([D.bool false, D.bool true].map V.d) (fun l => rfl) rfl fun n y hy K3 hK3 => ?_
    obtain ⟨hn, rfl⟩ := told_items hy
    dsimp only at hK3
    skip
    exact hK3
  · rw [e]
    skip
    refine ⟨by (first | decide | (simp; done) | rfl), by (first | decide | (simp; done) | rfl), by (first | decide | (simp; done) | rfl), ?_⟩
    refine eqS_fl get_top ?_ ?_ (hR _ _ (hK _))
    all_goals decide

theorem law_1 (O : Ok (cx w s0)) (hμ : ∀ k, μ k < 64) (hb : b < 4) (hS : Shut σ) (hK : ∀ st', K (.ret (.d (.bool true))) st') :
    wpSs (cx w s0) (r + 4) tl_law_1 ⟨σ, L14 v0 v1 b μ p q v11 v12 (some (.d (.list (r4.map fun k => leadD (μ k) b)))) (List.replicate 22 none)⟩ K := by
  unfold tl_law_1 L14
  refine stp fun K1 hN hR hB => ?_
  (try dsimp only [List.replicate, List.cons_append, List.nil_append, wpS, wpB, wpE, Option.map, wpEs, g_0, m_2, R.cm6, R.tr1, R.cm5, R.td2, newL, List.length_nil, R.eq4])
  refine wpG_map ?_
  (try dsimp only [wpE, wpEs, g_21, R.bi12])
  have hl4 : (((rangeL 0 4 1).map fun i => V.d (.int i)).length) = 4 := by rw [rng_len]; decide
  refine ⟨_, ⟨rfl, (rangeL 0 4 1).map fun i => V.d (.int i), none, rfl, (by trivial), by rw [hl4]; omega, by (first | decide | (simp; done) | rfl), fun j => D.bool (Nat.beq (tbN (μ j)) 0 && Nat.beq b 0), fun j x hx K2 hK2 => ?_, rfl⟩, fun st' e => ?_⟩
  · obtain ⟨hj, rfl⟩ := rng4 hx
    have hr := row_len (hμ j) hb
    dsimp only at hK2
    (try dsimp only [List.set, List.getElem?_cons_succ, List.getElem?_cons_zero, R.sb1])
    rw [at_nat, at_nat, rows_get (show j < (r4.map μ).length from hj), r4_at hj, s_sp, List.getElem?_map, show r4[j]? = some j from r4_get hj]
    refine ⟨_, rfl, by show 4 < _; omega, rfl, _, rfl, by rw [rows_len]; show 4 < _; omega, ?_⟩
    (try dsimp only [R.b6])
    rw [show (⟨#[32]⟩ : Str) = ⟨[32].toArray⟩ from rfl, str_app]
    refine ⟨by show 1 + (tail2 (leadL (μ j) b)).length ≤ _; rw [sizeLine_eq]; omega, ?_⟩
    refine (tc_ws O (l := [32] ++ tail2 (leadL (μ j) b)) (by show (tail2 (leadL (μ j) b)).length + 1 ≤ _; omega) hS ?_).tc
    unfold leadD
    refine (tc_lessL O (by omega) (by show (tail2 (leadL (μ j) b)).length + 1 ≤ _; omega) ?_).tc
    have := less_sp (hμ j) hb
    rw [show [32] ++ tail2 (leadL (μ j) b) = 32 :: tail2 (leadL (μ j) b) from rfl, this]
    exact hK2
  · rw [e]
    refine wpG_map ?_
    (try dsimp only [wpE, wpEs, g_21, R.bi12])
    refine ⟨_, ⟨rfl, (rangeL 0 4 1).map fun i => V.d (.int i), none, rfl, (by trivial), by rw [hl4]; omega, by (first | decide | (simp; done) | rfl), fun j => D.bool (Nat.beq (tbN (μ j)) 0 && Nat.beq b 0), fun j x hx K2 hK2 => ?_, rfl⟩, fun st' e => ?_⟩
    · obtain ⟨hj, rfl⟩ := rng4 hx
      dsimp only at hK2
      (try dsimp only [List.set, List.getElem?_cons_succ, List.getElem?_cons_zero, R.sb1])
      rw [at_nat, ints_get (show j < (r4.map fun k => tbN (μ k)).length from hj), r4_at hj]
      refine ⟨_, rfl, by rw [intsOf_len]; show 4 < _; omega, ?_⟩
      (try dsimp only [R.eq1, List.getElem?_cons_succ, List.getElem?_cons_zero, R.eq4])
      cases ht : Nat.beq (tbN (μ j)) 0 with
      | false =>
        rw [ht, Bool.false_and] at hK2
        have e0 : (((tbN (μ j) : Nat) : Int) == 0) = false := by
          cases q : (((tbN (μ j) : Nat) : Int) == 0) with
          | false => rfl
          | true =>
            have := eq_of_beq q
            rw [show tbN (μ j) = 0 by omega] at ht; cases ht
        rw [e0]
        exact ⟨fun _ => hK2, fun h => by cases h⟩
      | true =>
        rw [ht, Bool.true_and] at hK2
        have e0 : (((tbN (μ j) : Nat) : Int) == 0) = true := by rw [Nat.eq_of_beq_eq_true ht]; rfl
        rw [e0]
        refine ⟨fun h => (by cases h), fun _ => ⟨by omega, flat_data ints_flat, rfl, flat_shaped ints_flat, rfl, ?_⟩⟩
        rw [eqv_nil]
        have eb : (intsOf (bagL b)).isEmpty = Nat.beq b 0 := by
          have : b = 0 ∨ b = 1 ∨ b = 2 ∨ b = 3 := by omega
          rcases this with rfl | rfl | rfl | rfl <;> rfl
        rw [eb]; exact hK2
    · rw [e, hl4, bools_same]
      refine ⟨flat_data range_flat, flat_data range_flat, flat_shaped range_flat, flat_shaped range_flat, ?_⟩
      skip
      refine ⟨fun h => (by cases h), fun _ => ?_⟩
      exact stn (hN _ (law_0 O hμ hb hS hK))
end
end

set_option maxRecDepth 100000
set_option maxHeartbeats 4000000

section
variable {w : World} {s0 : Shared} {r : Nat} {σ : List MObj}
theorem flat2 {g : Nat → Nat → Bool} {n m : Nat} : ∃ bs : List Bool, ((List.range n).map fun j => (List.range m).map fun i => D.bool (g j i)).flatten = bs.map D.bool := by
  refine ⟨((List.range n).map fun j => (List.range m).map fun i => g j i).flatten, ?_⟩
  rw [List.map_flatten, List.map_map]
  congr 1
  refine List.map_congr_left fun j _ => ?_
  simp
theorem leads_at {μ : Nat → Nat} {b j : Nat} {x : V} (h : ((r4.map fun k => leadD (μ k) b).map V.d)[j]? = some x) : j < 4 ∧ x = .d (leadD (μ j) b) := by
  match j, h with
  | 0, h => cases h; exact ⟨by omega, rfl⟩
  | 1, h => cases h; exact ⟨by omega, rfl⟩
  | 2, h => cases h; exact ⟨by omega, rfl⟩
  | 3, h => cases h; exact ⟨by omega, rfl⟩
  | j + 4, h => simp [r4] at h
section
variable {v0 v1 v11 v12 v13 : Option V} {b : Nat} {μ : Nat → Nat} {p q : List Nat} {K : KF}
theorem law_2 (O : Ok (cx w s0)) (hμ : ∀ k, μ k < 64) (hb : b < 4) (hS : Shut σ) (hK : ∀ st', K (.ret (.d (.bool true))) st') :
    wpSs (cx w s0) (r + 4) tl_law_2 ⟨σ, L14 v0 v1 b μ p q v11 v12 v13 (List.replicate 22 none)⟩ K := by
  unfold tl_law_2 L14
  refine stp fun K1 hN hR hB => ?_
  (try dsimp only [List.replicate, List.cons_append, List.nil_append, wpS, wpE, g_0, wpEs, List.length_cons, List.length_nil, List.set])
  refine wpG_map ?_
  (try dsimp only [wpE, List.getElem?_cons_succ, List.getElem?_cons_zero])
  have hl5 : ((rowsD (r4.map μ) b).map V.d).length = 4 := by rw [List.length_map, rows_len]; rfl
  refine ⟨_, ⟨rfl, (rowsD (r4.map μ) b).map V.d, none, rfl, (by trivial), by rw [hl5]; omega, by (first | decide | (simp; done) | rfl), fun j => leadD (μ j) b, fun j x hx K2 hK2 => ?_, rfl⟩, fun st' e => ?_⟩
  · obtain ⟨hj, rfl⟩ := rows_at hx
    have hj : j < 4 := hj
    rw [r4_at hj] at hK2 ⊢
    have hr := row_len (hμ j) hb
    dsimp only at hK2
    (try dsimp only [List.set, List.getElem?_cons_succ, List.getElem?_cons_zero])
    exact (tc_ws O (l := tail2 (leadL (μ j) b)) (by omega) hS hK2).tc
  · rw [e, hl5]
    refine ⟨by (first | decide | (simp; done) | rfl), hN _ ?_⟩
    clear hN hR hB K1
    have e4 : (List.range 4).map (fun j => leadD (μ j) b) = r4.map fun k => leadD (μ k) b := rfl
    rw [e4]
    refine stp fun K1 hN hR hB => ?_
    (try dsimp only [wpS, wpB, wpE, Option.map, wpEs, m_2, R.cm6, R.tr1, R.eq4])
    refine wpG_two (by (first | decide | (simp; done) | rfl)) (by (first | decide | (simp; done) | rfl)) (by (first | decide | (simp; done) | rfl)) ?_
    (try dsimp only [List.set, List.getElem?_cons_succ, List.getElem?_cons_zero, wpE, R.it1])
    refine ⟨rfl, (r4.map fun k => leadD (μ k) b).map V.d, rfl, by show 4 ≤ 100; omega, 4, fun j m => D.bool (relN (μ j) (μ m)), by omega, fun j x hx o K2 hK2 => ?_, fun st' e => ?_⟩
    · obtain ⟨hj, rfl⟩ := leads_at hx
      skip
      refine hK2 _ ((r4.map fun k => leadD (μ k) b).map V.d) (fun l => rfl) rfl fun n y hy K3 hK3 => ?_
      obtain ⟨hn, rfl⟩ := leads_at hy
      have hr := row_len (hμ j) hb
      have hr' := row_len (hμ n) hb
      dsimp only at hK3
      unfold leadD at hK3 ⊢
      (try dsimp only [R.cl1])
      refine ⟨rfl, (tc_lessL O (by omega) (by omega) ?_).tc⟩
      rw [less_lead (hμ j) (hμ n) hb]
      exact hK3
    · rw [e]
      refine wpG_two (by (first | decide | (simp; done) | rfl)) (by (first | decide | (simp; done) | rfl)) (by (first | decide | (simp; done) | rfl)) ?_
      (try dsimp only [List.set, List.getElem?_cons_succ, List.getElem?_cons_zero, wpE, wpEs, g_21, R.bi12, R.it3])
      refine ⟨rfl, (rangeL 0 4 1).map fun i => V.d (.int i), rfl, by rw [rng_len]; decide, 4, fun j m => D.bool (relN (μ j) (μ m)), by omega, fun j x hx o K2 hK2 => ?_, fun st' e => ?_⟩
      · obtain ⟨hj, rfl⟩ := rng4 hx
        skip
        refine hK2 _ ((rangeL 0 4 1).map fun i => V.d (.int i)) (fun l => rfl) (by rw [rng_len]; decide) fun n y hy K3 hK3 => ?_
        obtain ⟨hn, rfl⟩ := rng4 hy
        dsimp only at hK3
        (try dsimp only [R.sb1, List.getElem?_cons_succ, List.getElem?_cons_zero])
        rw [at_nat, at_nat, ints_get (show j < (r4.map fun k => sgN (μ k)).length from hj), r4_at hj, ints_get (show n < (r4.map fun k => sgN (μ k)).length from hn), r4_at hn]
        refine ⟨_, rfl, by rw [intsOf_len]; show 4 < _; omega, _, rfl, by rw [intsOf_len]; show 4 < _; omega, ?_⟩
        (try dsimp only [R.cm1, R.tr1, List.getElem?_cons_succ, List.getElem?_cons_zero, R.sb1])
        refine ⟨fun h => ?_, fun h => ?_⟩
        · have e0 : relN (μ j) (μ n) = false := by
            unfold relN
            have : Nat.blt (sgN (μ j)) (sgN (μ n)) = false := by
              cases q : Nat.blt (sgN (μ j)) (sgN (μ n)) with
              | false => rfl
              | true => have := Nat.blt_eq.mp q; have := of_decide_eq_false h; omega
            rw [this]; rfl
          rw [e0] at hK3
          rw [h]; exact hK3
        · rw [at_nat, at_nat, ints_get (show j < (r4.map fun k => tbN (μ k)).length from hj), r4_at hj, ints_get (show n < (r4.map fun k => tbN (μ k)).length from hn), r4_at hn]
          refine ⟨_, rfl, by rw [intsOf_len]; show 4 < _; omega, _, rfl, by rw [intsOf_len]; show 4 < _; omega, ?_⟩
          (try dsimp only [R.cm2])
          have e0 : relN (μ j) (μ n) = decide (((tbN (μ j) : Nat) : Int) ≤ ((tbN (μ n) : Nat) : Int)) := by
            have h := of_decide_eq_true h
            unfold relN
            rw [Nat.blt_eq.mpr (by omega), Bool.true_and, Bool.eq_iff_iff, Nat.ble_eq]
            simp
          rw [e0] at hK3
          exact hK3
      · rw [e, rng_len]
        obtain ⟨bs, hbs⟩ := @flat2 (fun j m => relN (μ j) (μ m)) 4 4
        rw [show ((r4.map fun k => leadD (μ k) b).map V.d).length = 4 from rfl, show ((4 : Int) - 0).toNat = 4 from rfl, hbs]
        refine ⟨flat_data bools_flat, flat_data bools_flat, flat_shaped bools_flat, flat_shaped bools_flat, ?_⟩
        rw [eqv_bools, decide_eq_true rfl]
        skip
        refine ⟨fun h => (by cases h), fun _ => ?_⟩
        exact stn (hN _ (law_1 O hμ hb hS hK))

theorem dots_len {l : List Nat} : (dots l).length = 2 + 3 * l.length := by
  unfold dots
  rw [List.length_append]
  have : ∀ l : List Nat, ((l.map fun x => [x, 46, 46]).flatten).length = 3 * l.length := fun l => by
    induction l with
    | nil => rfl
    | cons x l ih => rw [List.map_cons, List.flatten_cons, List.length_append, ih]; simp; omega
  rw [this]; rfl
theorem alph_tame {y : Nat} (h : y ∈ [46, 97, 98, 99, 100, 65, 66, 67, 68]) : tameC y = true := by
  have : ([46, 97, 98, 99, 100, 65, 66, 67, 68] : List Nat).all tameC = true := by decide
  exact List.all_eq_true.mp this y h
theorem word_tame (hp : p ∈ perms4) : ∀ x ∈ wordP p, tameC x = true := fun x hx => by
  have := (p_all hp).2.2.2.2.1 x hx
  exact alph_tame (show x ∈ 46 :: ([97, 98, 99, 100] ++ [65, 66, 67, 68]) from List.mem_cons_of_mem _ (List.mem_append_left _ this))
theorem law_3 (O : Ok (cx w s0)) (hμ : ∀ k, μ k < 64) (hb : b < 4) (hp : p ∈ perms4) (hq : q ∈ perms4) (hr : ∀ i < 4, ∀ j < 4, relN (μ (p.getD i 9)) (μ (p.getD j 9)) = (Nat.blt i j && Nat.blt (idx (p.getD i 9) q) (idx (p.getD j 9) q))) (hS : Shut σ) (hK : ∀ st', K (.ret (.d (.bool true))) st') :
    wpSs (cx w s0) (r + 4) tl_law_3 ⟨σ, L14 v0 v1 b μ p q v11 v12 v13 (List.replicate 22 none)⟩ K := by
  obtain ⟨a1, a2, a3, a4, a5, a6, a7⟩ := p_all hp
  obtain ⟨c1, c2, c3, c4, c5, c6, c7⟩ := p_all hq
  have hlaw := (pq_law hp hq hr).2
  unfold tl_law_3 L14
  refine stp fun K1 hN hR hB => ?_
  (try dsimp only [List.replicate, List.cons_append, List.nil_append, wpS, wpE, wpEs, g_12, g_14, List.length_cons, List.length_nil, List.set])
  refine wpG_map ?_
  (try dsimp only [wpE, List.getElem?_cons_succ, List.getElem?_cons_zero])
  have hlp : ((intsOf p).map V.d).length = 4 := by rw [List.length_map, intsOf_len, a1]
  refine ⟨_, ⟨rfl, (intsOf p).map V.d, none, rfl, (by trivial), by rw [hlp]; omega, by (first | decide | (simp; done) | rfl), fun j => D.str ⟨(tail2 (leadL (μ (p.getD j 0)) b)).toArray⟩, fun j x hx K2 hK2 => ?_, rfl⟩, fun st' e => ?_⟩
  · obtain ⟨hj, rfl⟩ := ints_at hx
    have hpj : p.getD j 0 < 4 := by
      have h := (a3 j (by omega)).1
      rw [List.getD_eq_getElem?_getD, List.getElem?_eq_getElem hj] at h ⊢
      exact h
    dsimp only at hK2
    generalize p.getD j 0 = u at *
    (try dsimp only [List.set, List.getElem?_cons_succ, List.getElem?_cons_zero, R.sb1])
    rw [at_nat, rows_get (show u < (r4.map μ).length from hpj), r4_at hpj]
    exact ⟨_, rfl, by rw [rows_len]; show 4 < _; omega, hK2⟩
  · rw [e]
    have eo : (List.range ((intsOf p).map V.d).length).map (fun j => D.str ⟨(tail2 (leadL (μ (p.getD j 0)) b)).toArray⟩) = rowsD (p.map μ) b := by
      rw [List.length_map, intsOf_len]
      refine (range_getD (g := fun u => D.str ⟨(tail2 (leadL (μ u) b)).toArray⟩) (d := 0) (c := p)).trans ?_
      unfold rowsD strsOf; rw [List.map_map, List.map_map]; rfl
    rw [eo]
    have hms : ∀ m ∈ p.map μ, m < 64 := fun m hm => by obtain ⟨u, _, rfl⟩ := List.mem_map.mp hm; exact hμ u
    have hlen : (runP (blC relN) (p.map μ)).length = 4 := by unfold runP; rw [run_len, List.length_map, a1]; rfl
    have hA : ∀ e ∈ runP (blC relN) (p.map μ), e.1 < 4 ∧ e.2 < 64 := fun e he => ⟨by have := run_le (A := []) (fun _ h => by cases h) e he; rw [← hlen]; exact this, run_mem hms e he⟩
    refine (tc_cols O hms hb (by rw [List.length_map, a1]) hS ?_).tc
    skip
    refine (tc_names O hA (by omega) hb hS ?_).tc
    refine ⟨by (first | decide | (simp; done) | rfl), hN _ ?_⟩
    clear hN hR hB K1
    generalize namesP (runP (blC relN) (p.map μ)) = cols at *
    have hS2 : Shut (hdσ σ (entA b (runP (blC relN) (p.map μ)) (runP (blC relN) (p.map μ)).length)) := hd_shut hS
    generalize hdσ σ (entA b (runP (blC relN) (p.map μ)) (runP (blC relN) (p.map μ)).length) = σ2 at *
    refine stp fun K1 hN hR hB => ?_
    (try dsimp only [wpS, wpB, wpE, wpEs, List.getElem?_cons_succ, List.getElem?_cons_zero, g_5, R.cm6, R.tr1, R.b2])
    refine (tc_lev O (a := backP q) (b := wordP p) (mc := 28) (fun x hx => alph_tame (c6 x (List.mem_append_right _ hx))) (word_tame hp) (by unfold backP; rw [dots_len, List.length_map, List.length_reverse, c1]; omega) (by unfold wordP; rw [List.length_map, a1]; omega) hS2 fun res hres => ?_).tc
    have hres : res = 28 - (cols : Nat) := by rcases hres with h | h <;> omega
    subst hres
    (try dsimp only [R.eq1])
    refine ⟨fun h => ?_, fun _ => ?_⟩
    · simp at h
    · exact stn (hN _ (law_2 O hμ hb hS2 hK))
end
end

set_option maxRecDepth 100000
set_option maxHeartbeats 4000000

section
variable {w : World} {s0 : Shared} {r : Nat} {σ : List MObj}
theorem pick_map {α β : Type} {g : α → β} {S : List α} {lo hi st : Option Int} : pickL (S.map g) lo hi st = (pickL S lo hi st).map g := by
  unfold pickL
  rw [List.length_map, List.map_filterMap]
  congr 1
  funext j
  rw [List.getElem?_map]
theorem pick_ints {S : List Int} {lo hi st : Option Int} : pickL (S.map D.int) lo hi st = (pickL S lo hi st).map D.int := pick_map
theorem ints_of : ∀ S : List Int, intsD (S.map D.int) = some S
  | [] => rfl
  | x :: S => by
    have := ints_of S
    show (match intsD (S.map D.int) with | some l => some (x :: l) | none => none) = _
    rw [this]
theorem mod4 {X : Int} : ∃ bn : Nat, bn < 4 ∧ X.fmod 4 = (bn : Int) := by
  have h0 : 0 ≤ X.fmod 4 := Int.fmod_nonneg_of_pos _ (by omega)
  have h1 : X.fmod 4 < 4 := Int.fmod_lt_of_pos _ (by omega)
  exact ⟨(X.fmod 4).toNat, by omega, by omega⟩
theorem bag_at {b : Nat} (hb : b < 4) : atIdx [D.list [], D.list [D.int 1], D.list [D.int 2], D.list [D.int 1, D.int 3]] ((b : Nat) : Int) = some (.list (intsOf (bagL b))) := by
  rw [at_nat]
  have : b = 0 ∨ b = 1 ∨ b = 2 ∨ b = 3 := by omega
  rcases this with rfl | rfl | rfl | rfl <;> rfl
noncomputable def cst4 (j : Nat) : Int := [2, 9, 28, 39].getD j 0
theorem cst_at {j : Nat} (hj : j < 4) : atIdx [D.int 2, D.int 9, D.int 28, D.int 39] ((j : Nat) : Int) = some (.int (cst4 j)) := by
  rw [at_nat]
  have : j = 0 ∨ j = 1 ∨ j = 2 ∨ j = 3 := by omega
  rcases this with rfl | rfl | rfl | rfl <;> rfl
theorem pick4_len {α : Type} {l : List α} {lo : Int} (h : 0 ≤ lo) : (pickL l (some lo) none (some 4)).length ≤ l.length := by
  unfold pickL
  refine Nat.le_trans (List.length_filterMap_le _ _) ?_
  unfold sliceRange sliceBounds
  simp only [Option.getD]
  rw [List.length_map, List.length_range]
  rw [if_neg (show ¬ lo < 0 by omega)]
  simp only [show (4 : Int) > 0 by decide, if_true]
  split <;> omega
noncomputable def numsD (N : Nat → Int) : List D := r4.map fun j => D.int (N j)
theorem nums_at {N : Nat → Int} {j : Nat} {x : V} (h : ((numsD N).map V.d)[j]? = some x) : j < 4 ∧ x = .d (.int (N j)) := by
  match j, h with
  | 0, h => cases h; exact ⟨by omega, rfl⟩
  | 1, h => cases h; exact ⟨by omega, rfl⟩
  | 2, h => cases h; exact ⟨by omega, rfl⟩
  | 3, h => cases h; exact ⟨by omega, rfl⟩
  | j + 4, h => simp [numsD, r4] at h
theorem rl4 : (((rangeL 0 4 1).map fun i => V.d (.int i)).length) = 4 := by rw [rng_len]; decide

noncomputable def dropS : Nat → MSs → MSs
  | 0, s => s
  | n + 1, .cons _ s => dropS n s
  | _ + 1, .nil => .nil
noncomputable def t1 (μ : Nat → Nat) (k : Nat) : T3 := (((sgN (μ k) : Nat) : Int), -((tbN (μ k) : Nat) : Int), (k : Int))
noncomputable def t2 (μ : Nat → Nat) (k : Nat) : T3 := (((tbN (μ k) : Nat) : Int), ((sgN (μ k) : Nat) : Int), -(k : Int))
theorem of4_at {t : Nat → T3} {i : Nat} (h : i < 4) : of4 (t 0) (t 1) (t 2) (t 3) i = t i := by
  have : i = 0 ∨ i = 1 ∨ i = 2 ∨ i = 3 := by omega
  rcases this with rfl | rfl | rfl | rfl <;> rfl
theorem perm_lt {p : List Nat} (hp : p ∈ perms4) : ∀ i ∈ p, i < 4 := by
  have : ∀ p ∈ perms4, ∀ i ∈ p, i < 4 := by decide
  exact this p hp
theorem perm_len {p : List Nat} (hp : p ∈ perms4) : p.length = 4 := (p_all hp).1
theorem sorted_list {t : Nat → T3} {p : List Nat} (hp : p ∈ perms4) : (p.map fun i => tup3 (of4 (t 0) (t 1) (t 2) (t 3) i)) = p.map fun i => tup3 (t i) :=
  List.map_congr_left fun i hi => by rw [of4_at (perm_lt hp i hi)]
theorem sorted_pw {t : Nat → T3} {p : List Nat} (hp : p ∈ perms4) (h : (p.map (of4 (t 0) (t 1) (t 2) (t 3))).Pairwise le3) : (p.map t).Pairwise le3 := by
  have : p.map (of4 (t 0) (t 1) (t 2) (t 3)) = p.map t := List.map_congr_left fun i hi => of4_at (perm_lt hp i hi)
  rwa [this] at h
theorem item_at {t : Nat → T3} {p : List Nat} {j : Nat} {x : V} (h : ((p.map fun i => tup3 (t i)).map V.d)[j]? = some x) : j < p.length ∧ x = .d (tup3 (t (p.getD j 0))) := by
  have hj : j < p.length := by have := (List.getElem?_eq_some_iff.mp h).1; simpa using this
  refine ⟨hj, ?_⟩
  rw [List.getElem?_map, List.getElem?_map, List.getElem?_eq_getElem hj] at h
  rw [List.getD_eq_getElem?_getD, List.getElem?_eq_getElem hj]
  simpa using h.symm
theorem firsts {p : List Nat} : (List.range p.length).map (fun j => D.int ((p.getD j 0 : Nat) : Int)) = intsOf p :=
  range_getD (g := fun u : Nat => D.int (u : Int)) (d := 0) (c := p)

theorem s_abcd : Str.ofString "abcd" = ⟨#[97, 98, 99, 100]⟩ := by decide +kernel
theorem s_ABCD : Str.ofString "ABCD" = ⟨#[65, 66, 67, 68]⟩ := by decide +kernel
theorem s_dd : Str.ofString ".." = ⟨[46, 46].toArray⟩ := by decide +kernel
theorem at_abcd {u : Nat} (h : u < 4) : atIdx (⟨#[97, 98, 99, 100]⟩ : Str).cps.toList ((u : Nat) : Int) = some (97 + u) := by
  rw [at_nat]
  have : u = 0 ∨ u = 1 ∨ u = 2 ∨ u = 3 := by omega
  rcases this with rfl | rfl | rfl | rfl <;> rfl
theorem at_ABCD {u : Nat} (h : u < 4) : atIdx (⟨#[65, 66, 67, 68]⟩ : Str).cps.toList ((u : Nat) : Int) = some (65 + u) := by
  rw [at_nat]
  have : u = 0 ∨ u = 1 ∨ u = 2 ∨ u = 3 := by omega
  rcases this with rfl | rfl | rfl | rfl <;> rfl
/-- single letters -/
noncomputable def ones (l : List Nat) : List (List Nat) := l.map fun x => [x]
theorem ones_flat (l : List Nat) : (ones l).flatten = l := by
  unfold ones
  induction l with
  | nil => rfl
  | cons x l ih => rw [List.map_cons, List.flatten_cons, ih]; rfl
theorem ones_sum (l : List Nat) : (((ones l).map fun l => (⟨l.toArray⟩ : Str)).map fun x => x.length).sum = l.length := by
  unfold ones
  induction l with
  | nil => rfl
  | cons x l ih => rw [List.map_cons, List.map_cons, List.map_cons, List.sum_cons, ih, List.length_cons]; show 1 + _ = _; omega
theorem join_dd : ∀ {l : List Nat}, l ≠ [] → Str.join ⟨[46, 46].toArray⟩ ((ones l).map fun l => (⟨l.toArray⟩ : Str)) ++ ⟨[46, 46].toArray⟩ = ⟨((l.map fun x => [x, 46, 46]).flatten).toArray⟩
  | [], h => absurd rfl h
  | [x], _ => by show (⟨[x].toArray⟩ : Str) ++ _ = _; rw [str_app]; rfl
  | x :: y :: l, _ => by
    have ih := @join_dd (y :: l) (by simp)
    show (⟨[x].toArray⟩ : Str) ++ ⟨[46, 46].toArray⟩ ++ Str.join ⟨[46, 46].toArray⟩ ((ones (y :: l)).map fun l => (⟨l.toArray⟩ : Str)) ++ ⟨[46, 46].toArray⟩ = _
    have as : ∀ a b c : Str, a ++ b ++ c = a ++ (b ++ c) := fun a b c => by
      cases a; cases b; cases c
      show Str.mk (_ ++ _ ++ _) = Str.mk (_ ++ (_ ++ _))
      rw [Array.append_assoc]
    rw [as, ih, str_app, str_app]; rfl
theorem join_dots {l : List Nat} (h : l ≠ []) : (⟨[46, 46].toArray⟩ : Str) ++ Str.join ⟨[46, 46].toArray⟩ ((ones l).map fun l => (⟨l.toArray⟩ : Str)) ++ ⟨[46, 46].toArray⟩ = ⟨(dots l).toArray⟩ := by
  have as : ∀ a b c : Str, a ++ b ++ c = a ++ (b ++ c) := fun a b c => by
    cases a; cases b; cases c
    show Str.mk (_ ++ _ ++ _) = Str.mk (_ ++ (_ ++ _))
    rw [Array.append_assoc]
  rw [as, join_dd h, str_app]; rfl
theorem len_app (a b : Str) : (a ++ b).length = a.length + b.length := Array.size_append ..
theorem dots_fit {l : List Nat} (h : l ≠ []) : (⟨[46, 46].toArray⟩ : Str).length + (Str.join ⟨[46, 46].toArray⟩ ((ones l).map fun l => (⟨l.toArray⟩ : Str))).length + 2 = 2 + 3 * l.length := by
  have := congrArg Str.length (join_dots h)
  rw [len_app, len_app] at this
  have e : (⟨(dots l).toArray⟩ : Str).length = 2 + 3 * l.length := dots_len
  rw [e] at this
  exact this
theorem rev_all : ∀ q ∈ perms4, pickL q none none (some (-1)) = q.reverse := by decide +kernel
theorem back_ints {q : List Nat} (hq : q ∈ perms4) : pickL (intsOf q) none none (some (-1)) = intsOf q.reverse := by
  unfold intsOf; rw [pick_map, rev_all q hq]
theorem letters {p : List Nat} {c : Nat} : (List.range p.length).map (fun j => D.str ⟨#[c + p.getD j 0]⟩) = strsOf (ones (p.map fun u => c + u)) := by
  refine (range_getD (g := fun u : Nat => D.str ⟨#[c + u]⟩) (d := 0) (c := p)).trans ?_
  unfold strsOf ones
  rw [List.map_map, List.map_map]; rfl
theorem getD_lt {p : List Nat} {j : Nat} (h : ∀ i ∈ p, i < 4) (hj : j < p.length) : p.getD j 0 < 4 := h _ (getD_mem hj)

theorem law_c (O : Ok (cx w s0)) {v0 v1 : Option V} {b : Nat} {μ : Nat → Nat} {p q : List Nat} (hμ : ∀ k, μ k < 64) (hb : b < 4) (hp : p ∈ perms4) (hq : q ∈ perms4) (hr : ∀ i < 4, ∀ j < 4, relN (μ (p.getD i 9)) (μ (p.getD j 9)) = (Nat.blt i j && Nat.blt (idx (p.getD i 9) q) (idx (p.getD j 9) q))) (hS : Shut σ) {K : KF} (hK : ∀ st', K (.ret (.d (.bool true))) st') :
    wpSs (cx w s0) (r + 4) (dropS 7 bd_law) ⟨σ, [v0, v1, some (.d (.list (intsOf (bagL b)))), some (.d (.list (intsOf (r4.map fun k => tbN (μ k))))), some (.d (.list (intsOf (r4.map fun k => sgN (μ k))))), some (.d (.list (rowsD (r4.map μ) b))), some (.d (.list (intsOf p))), some (.d (.list (intsOf q)))] ++ List.replicate 28 none⟩ K := by
  have hl := perm_len hp
  have hlq := perm_len hq
  have hpl : ((intsOf p).map V.d).length = p.length := by rw [List.length_map, intsOf_len]
  have hql : ((intsOf q).map V.d).length = q.length := by rw [List.length_map, intsOf_len]
  have hrl : ((intsOf q.reverse).map V.d).length = q.reverse.length := by rw [List.length_map, intsOf_len]
  unfold bd_law
  dsimp only [dropS, List.replicate, List.cons_append, List.nil_append]
  -- word
  refine stp fun K1 hN hR hB2 => ?_
  (try dsimp only [wpS, wpE, R.ba6, wpEs, R.bm3, R.lof, List.length_cons, List.length_nil, List.set])
  refine ⟨(by trivial), (by trivial), ?_⟩
  refine wpG_map ?_
  (try dsimp only [wpE, List.getElem?_cons_succ, List.getElem?_cons_zero])
  refine ⟨_, ⟨rfl, (intsOf p).map V.d, none, rfl, (by trivial), by rw [hpl]; omega, by (first | decide | (simp; done) | rfl), fun j => D.str ⟨#[97 + p.getD j 0]⟩, fun j x hx K2 hK2 => ?_, rfl⟩, fun st' e => ?_⟩
  · obtain ⟨hj, rfl⟩ := ints_at hx
    have hu := getD_lt (perm_lt hp) hj
    dsimp only at hK2
    generalize p.getD j 0 = u at *
    (try dsimp only [List.set, List.getElem?_cons_succ, List.getElem?_cons_zero, R.sb3])
    rw [s_abcd, at_abcd hu]
    exact ⟨_, rfl, by (first | decide | (simp; done) | rfl), hK2⟩
  rw [e, hpl, letters]
  refine ⟨_, _, rfl, strsD_of _, by rw [ones_sum, List.length_map, s_emp]; show p.length + _ * 0 ≤ _; omega, by rw [List.length_map]; unfold ones; rw [List.length_map, List.length_map]; omega, by (first | decide | (simp; done) | rfl), hN _ ?_⟩
  rw [s_emp, join_nil, ones_flat]
  clear hN hR hB2 K1 e st'
  -- there
  refine stp fun K1 hN hR hB2 => ?_
  (try dsimp only [wpS, wpE, R.ba6, wpEs, R.bm3, R.b6, R.lof, List.length_cons, List.length_nil, List.set])
  refine ⟨(by trivial), (by trivial), ?_⟩
  refine wpG_map ?_
  (try dsimp only [wpE, List.getElem?_cons_succ, List.getElem?_cons_zero])
  refine ⟨_, ⟨rfl, (intsOf q).map V.d, none, rfl, (by trivial), by rw [hql]; omega, by (first | decide | (simp; done) | rfl), fun j => D.str ⟨#[97 + q.getD j 0]⟩, fun j x hx K2 hK2 => ?_, rfl⟩, fun st' e => ?_⟩
  · obtain ⟨hj, rfl⟩ := ints_at hx
    have hu := getD_lt (perm_lt hq) hj
    dsimp only at hK2
    generalize q.getD j 0 = u at *
    (try dsimp only [List.set, List.getElem?_cons_succ, List.getElem?_cons_zero, R.sb3])
    rw [s_abcd, at_abcd hu]
    exact ⟨_, rfl, by (first | decide | (simp; done) | rfl), hK2⟩
  rw [e, hql, letters, s_dd]
  have hol : ∀ (c : Nat), (ones (q.map fun u => c + u)).length = 4 := fun c => by unfold ones; rw [List.length_map, List.length_map, hlq]
  refine ⟨_, _, rfl, strsD_of _, by rw [ones_sum, List.length_map, List.length_map, hol]; show q.length + 4 * 2 ≤ _; omega, by rw [List.length_map, hol]; omega, ?_⟩
  have ne : ∀ (c : Nat) (l : List Nat), l.length = 4 → (l.map fun u => c + u) ≠ [] := fun c l h e => by
    have := congrArg List.length e
    rw [List.length_map, h] at this; cases this
  have f1 := dots_fit (ne 97 q hlq)
  rw [List.length_map, hlq] at f1
  refine ⟨by rw [sizeLine_eq]; omega, by rw [len_app, sizeLine_eq]; show _ + 2 ≤ _; omega, by (first | decide | (simp; done) | rfl), hN _ ?_⟩
  rw [join_dots (ne 97 q hlq)]
  clear hN hR hB2 K1 e st' f1
  -- back
  refine stp fun K1 hN hR hB2 => ?_
  (try dsimp only [wpS, wpE, R.ba6, wpEs, R.bm3, R.b6, R.lof, List.length_cons, List.length_nil, List.set])
  refine ⟨(by trivial), (by trivial), ?_⟩
  refine wpG_map ?_
  (try dsimp only [wpE, List.getElem?_cons_succ, List.getElem?_cons_zero, wpO, R.un1, R.sl2nn])
  rw [back_ints hq]
  refine ⟨by rw [intsOf_len]; omega, by (first | decide | (simp; done) | rfl), ?_⟩
  refine ⟨_, ⟨rfl, (intsOf q.reverse).map V.d, none, rfl, (by trivial), by rw [hrl, List.length_reverse]; omega, by (first | decide | (simp; done) | rfl), fun j => D.str ⟨#[65 + q.reverse.getD j 0]⟩, fun j x hx K2 hK2 => ?_, rfl⟩, fun st' e => ?_⟩
  · obtain ⟨hj, rfl⟩ := ints_at hx
    have hu := getD_lt (fun i hi => perm_lt hq i (List.mem_reverse.mp hi)) hj
    dsimp only at hK2
    generalize q.reverse.getD j 0 = u at *
    (try dsimp only [List.set, List.getElem?_cons_succ, List.getElem?_cons_zero, R.sb3])
    rw [s_ABCD, at_ABCD hu]
    exact ⟨_, rfl, by (first | decide | (simp; done) | rfl), hK2⟩
  have hlr : q.reverse.length = 4 := by rw [List.length_reverse, hlq]
  rw [e, hrl, letters, s_dd]
  have hor : ∀ (c : Nat), (ones (q.reverse.map fun u => c + u)).length = 4 := fun c => by unfold ones; rw [List.length_map, List.length_map, hlr]
  refine ⟨_, _, rfl, strsD_of _, by rw [ones_sum, List.length_map, List.length_map, hor]; show q.reverse.length + 4 * 2 ≤ _; omega, by rw [List.length_map, hor]; omega, ?_⟩
  have f1 := dots_fit (ne 65 q.reverse hlr)
  rw [List.length_map, hlr] at f1
  refine ⟨by rw [sizeLine_eq]; omega, by rw [len_app, sizeLine_eq]; show _ + 2 ≤ _; omega, by (first | decide | (simp; done) | rfl), hN _ ?_⟩
  rw [join_dots (ne 65 q.reverse hlr)]
  clear hN hR hB2 K1 e st' f1
  -- layers
  obtain ⟨a1, a2, a3, a4, a5, a6, a7⟩ := p_all hp
  obtain ⟨c1, c2, c3, c4, c5, c6, c7⟩ := p_all hq
  have hlaw := (pq_law hp hq hr).1
  refine stp fun K1 hN hR hB2 => ?_
  (try dsimp only [wpS, wpE, wpEs, g_13, g_14, List.length_cons, List.length_nil, List.set])
  refine wpG_map ?_
  (try dsimp only [wpE, List.getElem?_cons_succ, List.getElem?_cons_zero])
  refine ⟨_, ⟨rfl, (intsOf p).map V.d, none, rfl, (by trivial), by rw [hpl]; omega, by (first | decide | (simp; done) | rfl), fun j => D.str ⟨(tail2 (leadL (μ (p.getD j 0)) b)).toArray⟩, fun j x hx K2 hK2 => ?_, rfl⟩, fun st' e => ?_⟩
  · obtain ⟨hj, rfl⟩ := ints_at hx
    have hu := getD_lt (perm_lt hp) hj
    dsimp only at hK2
    generalize p.getD j 0 = u at *
    (try dsimp only [List.set, List.getElem?_cons_succ, List.getElem?_cons_zero, R.sb1])
    rw [at_nat, rows_get (show u < (r4.map μ).length from hu), r4_at hu]
    exact ⟨_, rfl, by rw [rows_len]; show 4 < _; omega, hK2⟩
  rw [e]
  have eo : (List.range ((intsOf p).map V.d).length).map (fun j => D.str ⟨(tail2 (leadL (μ (p.getD j 0)) b)).toArray⟩) = rowsD (p.map μ) b := by
    rw [List.length_map, intsOf_len]
    refine (range_getD (g := fun u => D.str ⟨(tail2 (leadL (μ u) b)).toArray⟩) (d := 0) (c := p)).trans ?_
    unfold rowsD strsOf; rw [List.map_map, List.map_map]; rfl
  rw [eo]
  have hms : ∀ m ∈ p.map μ, m < 64 := fun m hm => by obtain ⟨u, _, rfl⟩ := List.mem_map.mp hm; exact hμ u
  have hlen : (runP (blL relN) (p.map μ)).length = 4 := by unfold runP; rw [run_len, List.length_map, a1]; rfl
  have hA : ∀ e ∈ runP (blL relN) (p.map μ), e.1 < 4 ∧ e.2 < 64 := fun e he => ⟨by have := run_le (A := []) (fun _ h => by cases h) e he; rw [← hlen]; exact this, run_mem hms e he⟩
  refine (tc_lays O hms hb (by rw [List.length_map, a1]) hS ?_).tc
  skip
  refine (tc_names O hA (by omega) hb hS ?_).tc
  refine ⟨by (first | decide | (simp; done) | rfl), hN _ ?_⟩
  clear hN hR hB2 K1 e st'
  generalize namesP (runP (blL relN) (p.map μ)) = lays at *
  have hS2 : Shut (hdσ σ (entA b (runP (blL relN) (p.map μ)) (runP (blL relN) (p.map μ)).length)) := hd_shut hS
  generalize hdσ σ (entA b (runP (blL relN) (p.map μ)) (runP (blL relN) (p.map μ)).length) = σ2 at *
  refine stp fun K1 hN hR hB2 => ?_
  (try dsimp only [wpS, wpB, wpE, wpEs, List.getElem?_cons_succ, List.getElem?_cons_zero, g_5, R.cm6, R.tr1, R.b3, R.b2])
  refine (tc_lev O (a := wordP p) (b := thereP q) (mc := 28) (word_tame hp) (fun x hx => alph_tame (c6 x (List.mem_append_left _ hx))) (by unfold wordP; rw [List.length_map, a1]; omega) (by unfold thereP; rw [dots_len, List.length_map, c1]; omega) hS2 fun res hres => ?_).tc
  have hres : res = 28 - 2 * ((lays : Nat) : Int) := by rcases hres with h | h <;> omega
  subst hres
  (try dsimp only [R.eq1])
  refine ⟨mul_small (by omega), fun h => ?_, fun _ => ?_⟩
  · simp at h
  · exact stn (hN _ (law_3 O hμ hb hp hq hr hS2 hK))
end

set_option maxRecDepth 100000
set_option maxHeartbeats 4000000

section
variable {w : World} {s0 : Shared} {r : Nat} {σ : List MObj}
theorem law_b (O : Ok (cx w s0)) {v0 v1 : Option V} {b : Nat} {μ : Nat → Nat} (hμ : ∀ k, μ k < 64) (hb : b < 4) (hS : Shut σ) {K : KF} (hK : ∀ st', K (.ret (.d (.bool true))) st') :
    wpSs (cx w s0) (r + 4) (dropS 5 bd_law) ⟨σ, [v0, v1, some (.d (.list (intsOf (bagL b)))), some (.d (.list (intsOf (r4.map fun k => tbN (μ k))))), some (.d (.list (intsOf (r4.map fun k => sgN (μ k))))), some (.d (.list (rowsD (r4.map μ) b)))] ++ List.replicate 30 none⟩ K := by
  unfold bd_law
  dsimp only [dropS, List.replicate, List.cons_append, List.nil_append]
  refine stp fun K1 hN hR hB2 => ?_
  (try dsimp only [wpS, wpE, List.length_cons, List.length_nil, List.set])
  refine wpG_map ?_
  (try dsimp only [wpE, wpEs, g_23, R.bi20])
  refine wpG_map ?_
  (try dsimp only [wpE, wpEs, g_21, R.bi12])
  refine ⟨_, ⟨rfl, (rangeL 0 4 1).map fun i => V.d (.int i), none, rfl, (by trivial), by rw [rl4]; omega, by (first | decide | (simp; done) | rfl), fun j => tup3 (t1 μ j), fun j x hx K2 hK2 => ?_, rfl⟩, fun st' e => ?_⟩
  · obtain ⟨hj, rfl⟩ := rng4 hx
    dsimp only at hK2
    (try dsimp only [List.set, List.getElem?_cons_succ, List.getElem?_cons_zero, R.sb1, R.td3])
    rw [at_nat, at_nat, ints_get (show j < (r4.map fun k => sgN (μ k)).length from hj), r4_at hj, ints_get (show j < (r4.map fun k => tbN (μ k)).length from hj), r4_at hj]
    refine ⟨_, rfl, by rw [intsOf_len]; show 4 < _; omega, _, rfl, by rw [intsOf_len]; show 4 < _; omega, ?_⟩
    (try dsimp only [R.un1, List.getElem?_cons_succ, List.getElem?_cons_zero, R.td3, R.td2, List.length_cons, List.length_nil])
    exact ⟨by (first | decide | (simp; done) | rfl), hK2⟩
  rw [e, rl4]
  refine ⟨t1 μ 0, t1 μ 1, t1 μ 2, t1 μ 3, rfl, fun p hp hpw => ?_⟩
  have hpw := sorted_pw hp hpw
  rw [sorted_list hp]
  have hl := perm_len hp
  have hpl : ((p.map fun i => tup3 (t1 μ i)).map V.d).length = p.length := by rw [List.length_map, List.length_map]
  refine ⟨_, ⟨rfl, (p.map fun i => tup3 (t1 μ i)).map V.d, none, rfl, (by trivial), by rw [hpl]; omega, by (first | decide | (simp; done) | rfl), fun j => D.int (p.getD j 0 : Nat), fun j x hx K2 hK2 => ?_, rfl⟩, fun st' e => ?_⟩
  · obtain ⟨hj, rfl⟩ := item_at hx
    dsimp only at hK2
    unfold tup3 t1 at hK2 ⊢
    (try dsimp only [List.set, List.getElem?_cons_succ, List.getElem?_cons_zero, R.sb2, List.length_cons, List.length_nil])
    exact ⟨_, rfl, by (first | decide | (simp; done) | rfl), hK2⟩
  rw [e, hpl, firsts]
  refine ⟨by (first | decide | (simp; done) | rfl), hN _ ?_⟩
  clear hN hR hB2 K1 e st'
  -- second
  refine stp fun K1 hN hR hB2 => ?_
  (try dsimp only [wpS, wpE, List.length_cons, List.length_nil, List.set])
  refine wpG_map ?_
  (try dsimp only [wpE, wpEs, g_23, R.bi20])
  refine wpG_map ?_
  (try dsimp only [wpE, wpEs, g_21, R.bi12])
  refine ⟨_, ⟨rfl, (rangeL 0 4 1).map fun i => V.d (.int i), none, rfl, (by trivial), by rw [rl4]; omega, by (first | decide | (simp; done) | rfl), fun j => tup3 (t2 μ j), fun j x hx K2 hK2 => ?_, rfl⟩, fun st' e => ?_⟩
  · obtain ⟨hj, rfl⟩ := rng4 hx
    dsimp only at hK2
    (try dsimp only [List.set, List.getElem?_cons_succ, List.getElem?_cons_zero, R.sb1, R.td3, R.un1, R.td2, List.length_cons, List.length_nil])
    rw [at_nat, at_nat, ints_get (show j < (r4.map fun k => sgN (μ k)).length from hj), r4_at hj, ints_get (show j < (r4.map fun k => tbN (μ k)).length from hj), r4_at hj]
    refine ⟨_, rfl, by rw [intsOf_len]; show 4 < _; omega, _, rfl, by rw [intsOf_len]; show 4 < _; omega, ?_⟩
    skip
    exact ⟨by (first | decide | (simp; done) | rfl), hK2⟩
  rw [e, rl4]
  refine ⟨t2 μ 0, t2 μ 1, t2 μ 2, t2 μ 3, rfl, fun q hq hqw => ?_⟩
  have hqw := sorted_pw hq hqw
  rw [sorted_list hq]
  have hlq := perm_len hq
  have hql : ((q.map fun i => tup3 (t2 μ i)).map V.d).length = q.length := by rw [List.length_map, List.length_map]
  refine ⟨_, ⟨rfl, (q.map fun i => tup3 (t2 μ i)).map V.d, none, rfl, (by trivial), by rw [hql]; omega, by (first | decide | (simp; done) | rfl), fun j => D.int (q.getD j 0 : Nat), fun j x hx K2 hK2 => ?_, rfl⟩, fun st' e => ?_⟩
  · obtain ⟨hj, rfl⟩ := item_at hx
    dsimp only at hK2
    unfold tup3 t2
    (try dsimp only [List.set, List.getElem?_cons_succ, List.getElem?_cons_zero, R.sb2, List.length_cons, List.length_nil])
    refine ⟨_, rfl, by (first | decide | (simp; done) | rfl), ?_⟩
    (try dsimp only [R.un1])
    rw [Int.neg_neg]
    exact hK2
  rw [e, hql, firsts]
  refine ⟨by (first | decide | (simp; done) | rfl), hN _ ?_⟩
  clear hN hR hB2 K1 e st'
  have hr := sort_rel hp hq hpw hqw
  exact law_c O (v0 := v0) (v1 := v1) hμ hb hp hq hr hS hK

theorem wp_law (O : Ok (cx w s0)) {S : List Int} (hlen : S.length ≤ 63) (hS : Shut σ) {k : V → List MObj → Prop} (hK : ∀ σ', k (.d (.bool true)) σ') : wpSs (cx w s0) (r + 4) bd_law ⟨σ, loc0 36 [0] [.d (.list (S.map .int))]⟩ (retK k) := by
  unfold bd_law
  refine stp fun K1 hN hR hB2 => ?_
  (try dsimp only [loc0, List.replicate, List.set, wpS, wpE, wpEs, R.td3, R.td2, newL, List.length_cons, List.length_nil, g_20, wpO])
  refine wpG_map ?_
  (try dsimp only [wpE, wpEs, g_21, R.bi12])
  refine ⟨_, ⟨rfl, (rangeL 0 4 1).map fun i => V.d (.int i), none, rfl, (by trivial), by rw [rl4]; omega, by (first | decide | (simp; done) | rfl), fun j => D.int ((pickL S (some (j : Int)) none (some 4)).sum + cst4 j), fun j x hx K2 hK2 => ?_, rfl⟩, fun st' e => ?_⟩
  · obtain ⟨hj, rfl⟩ := rng4 hx
    dsimp only at hK2
    (try dsimp only [List.set, List.getElem?_cons_zero, List.getElem?_cons_succ, R.sl2in, R.bi10, R.sb1, List.length_cons, List.length_nil])
    rw [pick_ints, cst_at hj]
    have := pick4_len (l := S) (lo := (j : Int)) (by omega)
    refine ⟨by rw [List.length_map]; omega, by (first | decide | (simp; done) | rfl), _, ints_of _, by omega, by (first | decide | (simp; done) | rfl), _, rfl, by (first | decide | (simp; done) | rfl), ?_⟩
    (try dsimp only [R.b1])
    exact hK2
  rw [e, rl4]
  refine ⟨by (first | decide | (simp; done) | rfl), hN _ ?_⟩
  clear hN hR hB2 K1 e st'
  rw [show (List.range 4).map (fun j : Nat => D.int ((pickL S (some (j : Int)) none (some 4)).sum + cst4 j)) = numsD fun j : Nat => (pickL S (some (j : Int)) none (some 4)).sum + cst4 j from rfl]
  generalize (fun j : Nat => (pickL S (some (j : Int)) none (some 4)).sum + cst4 j) = N
  refine stp fun K1 hN hR hB2 => ?_
  (try dsimp only [wpS, wpE, wpEs, R.td2, g_20, newL, R.td3, List.length_cons, List.length_nil, List.getElem?_cons_zero, R.bi10, R.b5, R.sb1, List.set])
  obtain ⟨b, hb, he⟩ := @mod4 S.sum
  refine ⟨by (first | decide | (simp; done) | rfl), by (first | decide | (simp; done) | rfl), by (first | decide | (simp; done) | rfl), by (first | decide | (simp; done) | rfl), by (first | decide | (simp; done) | rfl), _, ints_of _, by omega, by (first | decide | (simp; done) | rfl), ?_⟩
  rw [he, bag_at hb]
  refine ⟨_, rfl, by (first | decide | (simp; done) | rfl), by (first | decide | (simp; done) | rfl), hN _ ?_⟩
  clear hN hR hB2 K1 he
  have hμ : ∀ k, resN (N k) < 64 := fun k => res_lt
  -- tabs
  refine stp fun K1 hN hR hB2 => ?_
  (try dsimp only [wpS, wpE, List.length_cons, List.length_nil, List.set])
  refine wpG_map ?_
  (try dsimp only [wpE, List.getElem?_cons_succ, List.getElem?_cons_zero])
  have hnl : ((numsD N).map V.d).length = 4 := rfl
  refine ⟨_, ⟨rfl, (numsD N).map V.d, none, rfl, (by trivial), by rw [hnl]; omega, by (first | decide | (simp; done) | rfl), fun j => D.int (tbN (resN (N j)) : Nat), fun j x hx K2 hK2 => ?_, rfl⟩, fun st' e => ?_⟩
  · obtain ⟨hj, rfl⟩ := nums_at hx
    dsimp only at hK2
    (try dsimp only [List.set, List.getElem?_cons_succ, List.getElem?_cons_zero, R.b5])
    rw [res_tabs]
    exact ⟨by (first | decide | (simp; done) | rfl), hK2⟩
  rw [e, hnl]
  refine ⟨by (first | decide | (simp; done) | rfl), hN _ ?_⟩
  clear hN hR hB2 K1 e st'
  -- signs
  refine stp fun K1 hN hR hB2 => ?_
  (try dsimp only [wpS, wpE, List.length_cons, List.length_nil, List.set])
  refine wpG_map ?_
  (try dsimp only [wpE, List.getElem?_cons_succ, List.getElem?_cons_zero])
  refine ⟨_, ⟨rfl, (numsD N).map V.d, none, rfl, (by trivial), by rw [hnl]; omega, by (first | decide | (simp; done) | rfl), fun j => D.int (sgN (resN (N j)) : Nat), fun j x hx K2 hK2 => ?_, rfl⟩, fun st' e => ?_⟩
  · obtain ⟨hj, rfl⟩ := nums_at hx
    dsimp only at hK2
    (try dsimp only [List.set, List.getElem?_cons_succ, List.getElem?_cons_zero, R.b5, R.b4, R.b1])
    rw [res_tabs, res_end]
    exact ⟨by (first | decide | (simp; done) | rfl), by (first | decide | (simp; done) | rfl), div_small (by (first | decide | (simp; done) | rfl)) (by (first | decide | (simp; done) | rfl)), by (first | decide | (simp; done) | rfl), hK2⟩
  rw [e, hnl]
  refine ⟨by (first | decide | (simp; done) | rfl), hN _ ?_⟩
  clear hN hR hB2 K1 e st'
  -- rows
  refine stp fun K1 hN hR hB2 => ?_
  (try dsimp only [wpS, wpE, g_10, wpEs, List.length_cons, List.length_nil, List.set])
  refine wpG_map ?_
  (try dsimp only [wpE, List.getElem?_cons_succ, List.getElem?_cons_zero])
  refine ⟨_, ⟨rfl, (numsD N).map V.d, none, rfl, (by trivial), by rw [hnl]; omega, by (first | decide | (simp; done) | rfl), fun j => D.str ⟨(tail2 (leadL (resN (N j)) b)).toArray⟩, fun j x hx K2 hK2 => ?_, rfl⟩, fun st' e => ?_⟩
  · obtain ⟨hj, rfl⟩ := nums_at hx
    dsimp only at hK2
    (try dsimp only [List.set, List.getElem?_cons_succ, List.getElem?_cons_zero])
    exact (tc_lead O hb hS hK2).tc
  rw [e, hnl]
  refine ⟨by (first | decide | (simp; done) | rfl), hN _ ?_⟩
  clear hN hR hB2 K1 e st'
  rw [show (List.range 4).map (fun j : Nat => D.int ((tbN (resN (N j)) : Nat) : Int)) = intsOf (r4.map fun k => tbN ((fun k => resN (N k)) k)) from rfl, show (List.range 4).map (fun j : Nat => D.int ((sgN (resN (N j)) : Nat) : Int)) = intsOf (r4.map fun k => sgN ((fun k => resN (N k)) k)) from rfl,
    show (List.range 4).map (fun j : Nat => D.str ⟨(tail2 (leadL (resN (N j)) b)).toArray⟩) = rowsD (r4.map fun k => resN (N k)) b from rfl]
  exact law_b O (v0 := some (.d (.list (S.map .int)))) (v1 := some (.d (.list (numsD N)))) hμ hb hS fun st' => hK st'.σ
end

set_option maxRecDepth 100000
set_option maxHeartbeats 8000000
theorem well_reps {P : Params} {h : Heap} {C : Addr} {Q : ObjAt} : ∀ {S : List Int} {vs : List Value}, WellAll P h vs (ofPys (S.map PyData.int)) → Reps C Q (S.map D.int) vs
  | [], vs, x => by
    cases x
    rfl
  | i :: S, vs, x => by
    have x : WellAll P h vs (WData.int i :: ofPys (S.map PyData.int)) := x
    cases x with
    | cons a b =>
      cases a
      exact .cons ⟨_, rfl⟩ (well_reps b)
theorem well_list {P : Params} {h : Heap} {C : Addr} {S : List Int} {a : Addr} (x : Well P h (.ref a) (ofPy (PyData.list (S.map PyData.int)))) : ∃ vs, h.get? a = some (lstObj vs 0) ∧ ∀ Q, Reps C Q (S.map D.int) vs := by
  have x : Well P h (.ref a) (WData.list (ofPys (S.map PyData.int))) := x
  cases x with
  | list e y => exact ⟨_, e, fun Q => well_reps y⟩
theorem law_at {w : World} : nsFind (es3 w.params) (Str.ofString "law") = some (.ref 305) := by kernel_rfl
theorem bindArgs_law (v : Value) : bindArgs fd_law ⟨[v], []⟩ = pure ([(nm_law 0, v)]) := by kernel_rfl

/-- the call, walked -/
theorem law_call {w : World} {s₁ : Shared} {mg mb : Str → Option Value} (KX : (KK w.params).In s₁.heap) (hT : s₁.heap.Ns mainGlobals mg) (hb : s₁.heap.Ns builtinsNs mb) (hbb : ∀ x : Str, x ≠ "__name__" → mb x = bootBuiltins x) (hn : s₁.heap.NoLimit)
    {fa a : Addr} (hmg : mg (Str.ofString "law") = some (.ref fa)) {S : List Int} (w1 : Well w.params s₁.heap (.ref a) (ofPy (PyData.list (S.map PyData.int)))) (hlen : ¬ ((63 : Nat) : Int) < (S.length : Nat)) {R : Result → Shared → Prop}
    (q : ∀ s', (∀ b o, s₁.heap.get? b = some o → s'.heap.get? b = some o) → s'.os = s₁.os → s'.gens = s₁.gens → R (.ok (.ret (.bool true))) s') :
    codeAny (model pw w) callerA (.call (.ref fa) ⟨[.ref a], []⟩) R s₁ := by
  have hfa : fa = 305 := by
    obtain ⟨o, es, ep, ho, hd, _, hf⟩ := hT
    have ho2 := KX _ _ (ob3_es (w := w))
    rw [ho2] at ho; cases ho
    cases hd
    have := hf (Str.ofString "law")
    rw [law_at, hmg] at this
    cases this; rfl
  subst hfa
  have O : Ok (cx w s₁) := ok3 KX hb hbb hn
  obtain ⟨vs, hget, hr⟩ := well_list (C := 100) w1
  have hl : S.length ≤ 63 := by omega
  refine TC_top0 (c := cx w s₁) (r := 4) (xs := [.d (.list (S.map D.int))]) (std3 O nm_law) (def_law O.In) (bindArgs_law _) rfl ⟨rfl, by decide, by decide⟩ ?_ ?_ (fun i hi => hi) (wp_law O (r := 0) hl Shut.nil fun _ => rfl) q
  · exact { base := fun _ _ e => e, os := rfl, gens := rfl, toks := fun h => (Bool.false_ne_true h).elim, len := rfl, objs := fun i p m e => by simp at e, apart := fun i j p q e => by simp at e, off := fun a ha => by simp [Rho.addrs] at ha, fresh := fun a ha => by simp [Rho.addrs] at ha, avs := fun a ha => by simp at ha }
  · exact .cons ⟨a, vs, 0, rfl, ⟨hget, by simp⟩, hr _⟩ .nil

end Mine
end
open Mine
set_option maxRecDepth 100000 in
set_option maxHeartbeats 8000000 in
theorem PySem.Challenge.cw_pm0081_01_holds : PySem.Challenge.rw_pm0081_01.Holds := by
  w_on
  refine holds_law ws3 fun said => ?_
  refine holds_open (q := vw) (loose := loose3) (Xt := fun s => xlAt vw [] s && recOk (RowW.records (OpenRow.toRowW (OpenLaw.row PySem.Challenge.rw_pm0081_01))) s) (XP := XL vw []) (Yf := Hook.obs (kHook KK KA KA_ok)) (Ya := Hook.val (kHook KK KA KA_ok)) (YP := Hook.says (kHook KK KA KA_ok)) (N := 4000) left3 (Hook.of (kHook KK KA KA_ok)) (Hook.keeps (kHook KK KA KA_ok)) (fun s e => xl_of s (Bool.and_eq_true_iff.mp e).1) XL.keeps (by rfl) (by rfl) (by rfl) (fun s e => recFacts_of (Bool.and_eq_true_iff.mp e).2) (by rfl) (by first | assumption | decide +kernel) (by decide +kernel) ⟨rfl, rfl, rfl, rfl, rfl, by decide +kernel⟩ ?hw ?hc
  case hw => w_witness2
  case hc =>
    intro w s₀ s₁ mg mb G Y fa o pm cd doc dV kV ho hd hcd hD hmg hg args vals as hpre hlay hrd hwl hlo
    have KX := kIn_of Y
    have hT := G.T.g
    have hb := G.T.b
    have hbb := G.T.builtins
    have hn := G.T.nolimit
    have hmg' : mg (Str.ofString "law") = some (.ref fa) := hmg
    clear ho hd hcd hD hmg G Y
    wrow_args hpre hlay hrd hwl hlo
    rename_i S _ _ _ _ _ _ _ a _ _ _ _ w1 _ _ _ hlen _
    refine enter_call (law_call KX hT hb hbb hn hmg' w1 hlen fun s' h1 h2 h3 => ?_)
    refine GoodW.toG ⟨.inl ⟨.bool true, .bool true, [], rfl, fun _ => rfl, .bool true, ?_, fun _ => ⟨List.nodup_nil, fun _ h => nomatch h⟩⟩, h1, h2, h3.trans hg⟩
    wrow_post
